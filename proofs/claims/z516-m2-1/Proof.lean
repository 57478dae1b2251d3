import JvmDerived
import JvmDerived.Pilot.@@N@@Statement
import JvmDerived.Pilot.@@N@@Code
set_option linter.unusedVariables false
set_option linter.unusedSimpArgs false
namespace Jvm.RoadKit
open Sem ClassFile Op Lib Jvm.Stand Jvm.Free Jvm.LawKit
section New
variable {p : Program} {l : Launch} {e : Env} {R : Room} {s : State} {m : MethodId} {args : Array Value} {below : List Frame} {meth : Method} {c : Code} {T : State} {locs : List Loc} {cells slots : Nat}
theorem retI (X : Stand p l e R s m args below meth c T locs cells slots) (hx : p.tables.exec = Jvm.exec) {pc : Nat} {Ls : Array Slot} {z : Int32} {rest : List Value} (hret : meth.sig.returnType = some .int) (hd : decode c.code pc = .ok (.ireturn, 1)) {fs : List Frame}
    (hl : ∀ (f : JFrame) (acts : List Action), f.method = m → f.locked = none → f.entered = [] → (doReturn e (T.setTop f) acts (some (.int z))).1 = T.setFrames fs) : Steps p.tables e below (T.setTop (mkF m pc Ls (.int z :: rest))) (T.setFrames fs) := by
  have hm' : T.vm.method? m = some meth := X.method'
  have hn : narrow .int (.int z) = .int z := rfl
  show Steps p.tables e below (T.setTop { method := m, pc := pc, locals := Ls, stack := _ :: rest, locked := none }) _
  jvm_step X.here [X.here.top, hx, hd, hm', hret, hn]
  first | (intro acts; rw [hl _ acts rfl rfl rfl]) | rw [hl _ _ rfl rfl rfl]
  exact Steps.refl _
end New
end Jvm.RoadKit
namespace Jvm.Pilot.@@N@@
open Jvm Jvm.ClassFile Sem Op Lib Jvm.Free Jvm.Stand Jvm.LawKit Jvm.RoadKit Bundle Jvm.Pilot.@@N@@.Jvm.D
section OwnKit
variable {p : Program} {l : Launch} {e : Env} {R : Room} {s : State} {m : MethodId} {args : Array Value} {below : List Frame} {meth : Method} {c : Code} {T T' : State} {locs : List Loc} {cells slots : Nat} {Z : State} {a0 : Array Value} {h h' : Heap} {n0 : Nat} {a : Addr}
/-- from this frame the walk ends by a return, and leaves what Q says -/
def own_Ends (p : Program) (e : Env) (below : List Frame) (s : State) (k n : Nat) (Q : Option Value → Heap → List Loc → Prop) (T : State) (F : JFrame) : Prop :=
  ∃ s₂ o, Steps p.tables e below (T.setTop F) s₂ ∧ s₂.status = .running ∧ Ended s₂ below o ∧ ∃ v L, o = .returned v ∧ Q v s₂.heap L ∧ FrameEnd s o s₂ L k n
theorem own_st {F F' : JFrame} {k n : Nat} {Q : Option Value → Heap → List Loc → Prop} (q : ∀ t, Steps p.tables e below (T'.setTop F') t → Steps p.tables e below (T.setTop F) t) (r : own_Ends p e below s k n Q T' F') : own_Ends p e below s k n Q T F := by
  obtain ⟨s₂, o, h1, h2⟩ := r
  exact ⟨s₂, o, q _ h1, h2⟩
theorem own_retN (X : Stand p l e R s m args below meth c T locs cells slots) (hx : p.tables.exec = Jvm.exec) (hlk : meth.locks = false) {t : FieldType} (hret : meth.sig.returnType = some t) (ht : t = .boolean ∨ t = .byte ∨ t = .char ∨ t = .short) {pc : Nat} {Ls : Array Slot} {z : Int32} {rest : List Value}
    (hd : decode c.code pc = .ok (.ireturn, 1)) {k n : Nat} {Q : Option Value → Heap → List Loc → Prop} (hk : cells ≤ k) (hn : slots ≤ n) (q : Q (some (.int (nar t z))) T.heap locs) : own_Ends p e below s k n Q T (mkF m pc Ls (.int z :: rest)) := by
  obtain ⟨fs, hr, hrun, hended, hW, hsame⟩ := X.leave (v := some (.int (nar t z))) (fun h => by rw [hret] at h; cases h) hlk
  exact ⟨_, _, retN X hx hret ht hd hr, hrun, hended, _, _, rfl, q, ⟨_, rfl⟩, hW, hsame.mono hk hn⟩
theorem own_retI (X : Stand p l e R s m args below meth c T locs cells slots) (hx : p.tables.exec = Jvm.exec) (hlk : meth.locks = false) (hret : meth.sig.returnType = some .int) {pc : Nat} {Ls : Array Slot} {z : Int32} {rest : List Value}
    (hd : decode c.code pc = .ok (.ireturn, 1)) {k n : Nat} {Q : Option Value → Heap → List Loc → Prop} (hk : cells ≤ k) (hn : slots ≤ n) (q : Q (some (.int z)) T.heap locs) : own_Ends p e below s k n Q T (mkF m pc Ls (.int z :: rest)) := by
  obtain ⟨fs, hr, hrun, hended, hW, hsame⟩ := X.leave (v := some (.int z)) (fun h => by rw [hret] at h; cases h) hlk
  exact ⟨_, _, retI X hx hret hd hr, hrun, hended, _, _, rfl, q, ⟨_, rfl⟩, hW, hsame.mono hk hn⟩
theorem own_retL (X : Stand p l e R s m args below meth c T locs cells slots) (hx : p.tables.exec = Jvm.exec) (hlk : meth.locks = false) (hret : meth.sig.returnType = some .long) {pc : Nat} {Ls : Array Slot} {z : Int64}
    (hd : decode c.code pc = .ok (.lreturn, 1)) {k n : Nat} {Q : Option Value → Heap → List Loc → Prop} (hk : cells ≤ k) (hn : slots ≤ n) (q : Q (some (.long z)) T.heap locs) : own_Ends p e below s k n Q T (mkF m pc Ls [.long z]) := by
  obtain ⟨fs, hr, hrun, hended, hW, hsame⟩ := X.leave (v := some (.long z)) (fun h => by rw [hret] at h; cases h) hlk
  exact ⟨_, _, X.lreturnOut hx hret hd hr, hrun, hended, _, _, rfl, q, ⟨_, rfl⟩, hW, hsame.mono hk hn⟩
theorem own_retV (X : Stand p l e R s m args below meth c T locs cells slots) (hx : p.tables.exec = Jvm.exec) (hlk : meth.locks = false) (hret : meth.sig.returnType = none) {pc : Nat} {Ls : Array Slot}
    (hd : decode c.code pc = .ok (.return_, 1)) {k n : Nat} {Q : Option Value → Heap → List Loc → Prop} (hk : cells ≤ k) (hn : slots ≤ n) (q : Q none T.heap locs) : own_Ends p e below s k n Q T (mkF m pc Ls []) := by
  obtain ⟨fs, hr, hrun, hended, hW, hsame⟩ := X.leave (v := none) (fun _ => rfl) hlk
  exact ⟨_, _, X.returnOut hx hret hd hr, hrun, hended, _, _, rfl, q, ⟨_, rfl⟩, hW, hsame.mono hk hn⟩
/-- a body's contract: called with these values in heap h it returns, and Q holds of what it returns, of the heap and of the places written -/
abbrev own_Met (l : Launch) (Z : State) (y : MethodName) (bytes : ByteArray) (maxL : Nat) (ret : Option FieldType) (ws : List Jvm.Cond) (rm : Room) (as' : Array Value) (h : Heap) (Q : Option Value → Heap → List Loc → Prop) : Prop :=
  MetFree l y (head1 (Jvm.Cond.code y bytes maxL ret :: ws) rm) (fun a U => a = as' ∧ Z.Warmed39 U.vm ∧ U.heap = h) (fun _ _ _ _ _ => True) (fun _ U o U' => ∃ v L, o = .returned v ∧ Q v U'.heap L ∧ FrameEnd U o U' L rm.cells rm.slots)
theorem own_body {y : MethodName} {bytes : ByteArray} {maxL : Nat} {ret : Option FieldType} {ws : List Jvm.Cond} {rm : Room} {as' : Array Value} {Q : Option Value → Heap → List Loc → Prop} (hpf : plainFor y = true)
    (body : ∀ (p : Program) (e : Env) (s : State) (m : MethodId) (below : List Frame) (meth : Method) (c : Code) (T : State), Stand p l e rm s m as' below meth c T [] 0 0 → p.tables.exec = Jvm.exec → c.code = bytes → c.maxLocals = maxL → meth.sig.returnType = ret → meth.locks = false → Z.Warmed39 s.vm → s.vm.findClass y.cls = some m.cls → meth.name = y.name → T.heap = h →
      own_Ends p e below s rm.cells rm.slots Q T (entryFrame m as' maxL)) : own_Met l Z y bytes maxL ret ws rm as' h Q := by
  refine MetFree.of_bodySF hpf hisR ?_
  intro p e s m args below meth c s₁ Bd hml0 hP hK
  obtain ⟨rfl, hZ, hh⟩ := hP
  exact body p e s m below meth c s₁ (Stand.of_body Bd) Bd.exec Bd.bytes hml0 Bd.returns Bd.notSynchronized hZ (findClass_of_methodNamed Bd.named) (name_of_methodNamed Bd.named Bd.method).1 (by rw [← hh, Bd.state]; rfl)
theorem own_entry {F F' : JFrame} {k n : Nat} {Q : Option Value → Heap → List Loc → Prop} (q : F = F') (r : own_Ends p e below s k n Q T F') : own_Ends p e below s k n Q T F := q ▸ r
/-- what a body without effect leaves -/
abbrev own_PQ (w : Value) (h0 : Heap) (n0 : Nat) : Option Value → Heap → List Loc → Prop := fun v h L => v = some w ∧ Fr n0 L ∧ h = h0
theorem own_PQi {w w' : Value} {h0 : Heap} {L : List Loc} (hv : w = w') (N : Fr n0 L) (hh : h = h0) : own_PQ w' h0 n0 (some w) h L := ⟨congrArg some hv, N, hh⟩
/-- a static call by the callee's contract -/
theorem own_callS (X : Stand p l e R s m args below meth c T locs cells slots) (hx : p.tables.exec = Jvm.exec) (hZ : Z.Warmed39 s.vm) {own : String} {index : Nat} {y : MethodName} {bytes : ByteArray} {maxL : Nat} {ret : Option FieldType} {rm : Room} (W : Nat) {as' : Array Value} {Q : Option Value → Heap → List Loc → Prop}
    (hown : s.vm.findClass own = some m.cls) (w1 : (Jvm.Cond.methodLink own index y).before a0 Z = true) (w2 : (Jvm.Cond.static y).before a0 Z = true) (w3 : (Jvm.Cond.initialized y.cls).before a0 Z = true) (w4 : (Jvm.Cond.code y bytes maxL ret).before a0 Z = true)
    (hy : y.cls ≠ "java/lang/invoke/MethodHandle" ∧ y.cls ≠ "java/lang/invoke/VarHandle") (hM : own_Met l Z y bytes maxL ret [] rm as' h Q) (hf : rm.frames + 1 ≤ R.frames) (hl : W + (maxL + 11) + rm.locals ≤ R.locals) (eT : T.heap = h) (hc : cells + rm.cells ≤ R.cells) (hs : slots + rm.slots ≤ R.slots)
    {g : JFrame} (hg : g.method = m) (hsize : g.locals.size = c.maxLocals) {argsL rest : List Value} (hlen : ∀ sig, parseMethodDescriptor y.desc = some sig → argsL.length = sig.parameters.length) (has : argsL.toArray = as') (hst : g.stack = argsL.reverse ++ rest)
    (hW : 2 * g.monitorRoom + (rest.map fun v => v.category).sum ≤ W) (hd : decode c.code g.pc = .ok (.invokestatic index, 3)) :
    ∃ (v : Option Value) (T' : State) (L : List Loc), Stand p l e R s m args below meth c T' (locs ++ L) (cells + rm.cells) (slots + rm.slots) ∧ Q v T'.heap L ∧
      ∀ t, Steps p.tables e below (T'.setTop { g with pc := g.pc + 3, stack := v.toList ++ rest }) t → Steps p.tables e below (T.setTop g) t := by
  obtain ⟨v, _, ⟨T6, L6, k6, n6⟩, -, X6, ⟨Lc6, hQ6, l6, y6, z6⟩, st6⟩ := Jvm.LawKit.callS X hx hown (mvT hZ w1) (mvT hZ w2) (mvT hZ w3) (mvT hZ w4) hy (backOf (W := W) hM hZ w4 w3 hf hl) hg hsize (argsL := argsL) (rest := rest) hlen hst hW hd (fun _ _ => ⟨has, eT, hc, hs⟩)
  dsimp only [Pt.U, Pt.locs, Pt.cells, Pt.slots] at X6 l6 y6 z6 st6 hQ6
  subst l6 y6 z6
  exact ⟨v, T6, Lc6, X6, hQ6, st6⟩
/-- a static call without effect -/
theorem own_callP (X : Stand p l e R s m args below meth c T locs cells slots) (hx : p.tables.exec = Jvm.exec) (hZ : Z.Warmed39 s.vm) {own : String} {index : Nat} {y : MethodName} {bytes : ByteArray} {maxL : Nat} {ret : Option FieldType} {rm : Room} (W : Nat) {as' : Array Value} {w : Value}
    (hown : s.vm.findClass own = some m.cls) (w1 : (Jvm.Cond.methodLink own index y).before a0 Z = true) (w2 : (Jvm.Cond.static y).before a0 Z = true) (w3 : (Jvm.Cond.initialized y.cls).before a0 Z = true) (w4 : (Jvm.Cond.code y bytes maxL ret).before a0 Z = true)
    (hy : y.cls ≠ "java/lang/invoke/MethodHandle" ∧ y.cls ≠ "java/lang/invoke/VarHandle") (hM : own_Met l Z y bytes maxL ret [] rm as' h (own_PQ w h n0)) (hf : rm.frames + 1 ≤ R.frames) (hl : W + (maxL + 11) + rm.locals ≤ R.locals) (rc : rm.cells = 0) (rs : rm.slots = 0) (eT : T.heap = h) (N : Fr n0 locs) (hc : cells ≤ R.cells) (hs : slots ≤ R.slots)
    {g : JFrame} (hg : g.method = m) (hsize : g.locals.size = c.maxLocals) {argsL rest : List Value} (hlen : ∀ sig, parseMethodDescriptor y.desc = some sig → argsL.length = sig.parameters.length) (has : argsL.toArray = as') (hst : g.stack = argsL.reverse ++ rest)
    (hW : 2 * g.monitorRoom + (rest.map fun v => v.category).sum ≤ W) (hd : decode c.code g.pc = .ok (.invokestatic index, 3)) :
    ∃ (T' : State) (locs' : List Loc), Stand p l e R s m args below meth c T' locs' cells slots ∧ T'.heap = h ∧ Fr n0 locs' ∧
      ∀ t, Steps p.tables e below (T'.setTop { g with pc := g.pc + 3, stack := w :: rest }) t → Steps p.tables e below (T.setTop g) t := by
  obtain ⟨v, T', L, X', ⟨rfl, NL, hh⟩, st⟩ := own_callS X hx hZ W hown w1 w2 w3 w4 hy hM hf hl eT (by rw [rc]; exact hc) (by rw [rs]; exact hs) hg hsize hlen has hst hW hd
  rw [rc, rs] at X'
  exact ⟨T', _, X', hh, Fr.app N NL, st⟩
/-- an array of ints, bytes, ..: its length and all its elements -/
def own_AI (Z : State) (h : Heap) (a : Addr) (ty : FieldType) (n : Int32) (xs : List Int32) : Prop := ∃ k, Arv Z h a k ty n (xs.map Value.int) (.int 0) ∧ xs.length = n.toNatClampNeg
def own_AJ (Z : State) (h : Heap) (a : Addr) (n : Int32) (xs : List Int64) : Prop := ∃ k, Arv Z h a k .long n (xs.map Value.long) (.long 0) ∧ xs.length = n.toNatClampNeg
theorem own_AI.ext {ty : FieldType} {n : Int32} {xs : List Int32} (V : own_AI Z h a ty n xs) (E : Ext h h') : own_AI Z h' a ty n xs := by
  obtain ⟨k, V, q⟩ := V; exact ⟨k, V.ext E, q⟩
theorem own_AJ.ext {n : Int32} {xs : List Int64} (V : own_AJ Z h a n xs) (E : Ext h h') : own_AJ Z h' a n xs := by
  obtain ⟨k, V, q⟩ := V; exact ⟨k, V.ext E, q⟩
theorem own_AI.other {ty : FieldType} {n : Int32} {xs : List Int32} {b : Addr} {sl : Nat} {v : Value} (V : own_AI Z h a ty n xs) (W : Wr h h' b sl v) (q : a ≠ b) : own_AI Z h' a ty n xs := by
  obtain ⟨k, V, r⟩ := V; exact ⟨k, V.other W q, r⟩
theorem own_AJ.other {n : Int32} {xs : List Int64} {b : Addr} {sl : Nat} {v : Value} (V : own_AJ Z h a n xs) (W : Wr h h' b sl v) (q : a ≠ b) : own_AJ Z h' a n xs := by
  obtain ⟨k, V, r⟩ := V; exact ⟨k, V.other W q, r⟩
theorem own_AI.keep {ty : FieldType} {n : Int32} {xs : List Int32} {ws : List Addr} (V : own_AI Z h a ty n xs) (K : Keep h h' ws) (q : a ∉ ws) : own_AI Z h' a ty n xs := by
  obtain ⟨k, V, r⟩ := V; exact ⟨k, V.keep K q, r⟩
theorem own_AJ.keep {n : Int32} {xs : List Int64} {ws : List Addr} (V : own_AJ Z h a n xs) (K : Keep h h' ws) (q : a ∉ ws) : own_AJ Z h' a n xs := by
  obtain ⟨k, V, r⟩ := V; exact ⟨k, V.keep K q, r⟩
theorem own_AI.lt {ty : FieldType} {n : Int32} {xs : List Int32} (V : own_AI Z h a ty n xs) : a < h.size := by
  obtain ⟨k, V, q⟩ := V; exact V.lt
theorem own_AJ.lt {n : Int32} {xs : List Int64} (V : own_AJ Z h a n xs) : a < h.size := by
  obtain ⟨k, V, q⟩ := V; exact V.lt
theorem own_AI.len {ty : FieldType} {n : Int32} {xs : List Int32} (V : own_AI Z h a ty n xs) : xs.length = n.toNatClampNeg := by
  obtain ⟨k, V, q⟩ := V; exact q
theorem own_AJ.len {n : Int32} {xs : List Int64} (V : own_AJ Z h a n xs) : xs.length = n.toNatClampNeg := by
  obtain ⟨k, V, q⟩ := V; exact q
theorem own_map_getD {α : Type} (f : α → Value) (d : α) (xs : List α) (i : Nat) : (xs.map f).getD i (f d) = f (xs.getD i d) := by
  simp only [List.getD_eq_getElem?_getD, List.getElem?_map]
  cases xs[i]? <;> rfl
theorem own_bound {j n : Int32} {N : Nat} (hN : N = n.toNatClampNeg) (hj : ¬ j < 0) (hn : ¬ n < 0) (q : j.toNatClampNeg < N) : ¬ j < 0 ∧ j < n := by
  refine ⟨hj, ?_⟩
  rw [hN] at q
  rw [Int32.lt_iff_toInt_lt] at hj hn ⊢
  have e0 : (0 : Int32).toInt = 0 := rfl
  simp only [Int32.toNatClampNeg] at q
  omega
/-- newarray of an int's kind -/
theorem own_newI (X : Stand p l e R s m args below meth c T locs cells slots) (hx : p.tables.exec = Jvm.exec) (hZ : Z.Warmed39 s.vm) {aty : ArrayType} (w : (Jvm.Cond.arrayClass (newarray.typeOf aty)).before a0 Z = true) (eT : T.heap = h) (Z0 : n0 ≤ h.size) {g : JFrame} (hg : g.method = m) {n : Int32} {rest : List Value} (hs : g.stack = .int n :: rest)
    (hd : decode c.code g.pc = .ok (.newarray aty, 2)) (hdv : defaultValue (newarray.typeOf aty) = .int 0) (hn : ¬ n < 0) (cap N : Nat) (hN : n.toNatClampNeg = N) (hcap : N ≤ cap) (hb : cap * 8 ≤ 536870912) (hc : cells + 1 ≤ R.cells) (hl : slots + cap ≤ R.slots) :
    ∃ (T' : State) (h' : Heap) (b : Addr), Stand p l e R s m args below meth c T' locs (cells + 1) (slots + cap) ∧ T'.heap = h' ∧ Ext h h' ∧ b = h.size ∧ n0 ≤ b ∧ n0 ≤ h'.size ∧ own_AI Z h' b (newarray.typeOf aty) n (List.replicate N 0) ∧
      ∀ t, Steps p.tables e below (T'.setTop { g with pc := g.pc + 2, stack := .ref b :: rest }) t → Steps p.tables e below (T.setTop g) t := by
  obtain ⟨T', h', k, X', e', E, A, st⟩ := newP X hx hZ w eT hg hd hs hn (cap := cap) (by rw [hN]; exact hcap) hb hc hl
  refine ⟨T', h', h.size, X', e', E, rfl, Z0, Nat.le_trans Z0 E.1, ⟨k, ?_, by rw [List.length_replicate, hN]⟩, st⟩
  have V := Arv.new A hn
  rw [hdv] at V
  rw [List.map_replicate]
  exact V.pad (vs' := List.replicate N (.int 0)) (fun i => by have q := pad_rep [] (Value.int 0) N i; rw [List.nil_append] at q; exact q)
theorem own_newJ (X : Stand p l e R s m args below meth c T locs cells slots) (hx : p.tables.exec = Jvm.exec) (hZ : Z.Warmed39 s.vm) (w : (Jvm.Cond.arrayClass .long).before a0 Z = true) (eT : T.heap = h) (Z0 : n0 ≤ h.size) {g : JFrame} (hg : g.method = m) {n : Int32} {rest : List Value} (hs : g.stack = .int n :: rest)
    (hd : decode c.code g.pc = .ok (.newarray .long, 2)) (hn : ¬ n < 0) (cap N : Nat) (hN : n.toNatClampNeg = N) (hcap : N ≤ cap) (hb : cap * 8 ≤ 536870912) (hc : cells + 1 ≤ R.cells) (hl : slots + cap ≤ R.slots) :
    ∃ (T' : State) (h' : Heap) (b : Addr), Stand p l e R s m args below meth c T' locs (cells + 1) (slots + cap) ∧ T'.heap = h' ∧ Ext h h' ∧ b = h.size ∧ n0 ≤ b ∧ n0 ≤ h'.size ∧ own_AJ Z h' b n (List.replicate N 0) ∧
      ∀ t, Steps p.tables e below (T'.setTop { g with pc := g.pc + 2, stack := .ref b :: rest }) t → Steps p.tables e below (T.setTop g) t := by
  obtain ⟨T', h', k, X', e', E, A, st⟩ := newP X hx hZ (aty := .long) w eT hg hd hs hn (cap := cap) (by rw [hN]; exact hcap) hb hc hl
  refine ⟨T', h', h.size, X', e', E, rfl, Z0, Nat.le_trans Z0 E.1, ⟨k, ?_, by rw [List.length_replicate, hN]⟩, st⟩
  have V := Arv.new A hn
  rw [List.map_replicate]
  exact V.pad (vs' := List.replicate N (.long 0)) (fun i => by have q := pad_rep [] (Value.long 0) N i; rw [List.nil_append] at q; exact q)
/-- a byte stored -/
theorem own_stB (X : Stand p l e R s m args below meth c T locs cells slots) (hx : p.tables.exec = Jvm.exec) (hZ : Z.Warmed39 s.vm) (eT : T.heap = h) (N : Fr n0 locs) {n : Int32} {xs ys : List Int32} (V : own_AI Z h a .byte n xs) (ga : n0 ≤ a) {g : JFrame} (hg : g.method = m) {j x : Int32} {rest : List Value} (hs : g.stack = .int x :: .int j :: .ref a :: rest)
    (hd : decode c.code g.pc = .ok (.bastore, 1)) (hj : ¬ j < 0) (hi : j.toNatClampNeg < xs.length) (hy : xs.set j.toNatClampNeg (x.toInt8.toInt32) = ys) :
    ∃ (T' : State) (h' : Heap) (locs' : List Loc), Stand p l e R s m args below meth c T' locs' cells slots ∧ T'.heap = h' ∧ Fr n0 locs' ∧ Wr h h' a j.toNatClampNeg (.int (x.toInt8.toInt32)) ∧ own_AI Z h' a .byte n ys ∧
      ∀ t, Steps p.tables e below (T'.setTop { g with pc := g.pc + 1, stack := rest }) t → Steps p.tables e below (T.setTop g) t := by
  obtain ⟨k, ⟨cl, Ar, q, S, M, H, G⟩, hl⟩ := V
  obtain ⟨T', h', X', e', W, st⟩ := stB X hx hZ eT Ar (j := j) (x := x) (inb_of S (own_bound hl hj M hi)) hg hs hd
  refine ⟨T', h', _, X', e', Fr.snoc X' N ga, W, ?_, st⟩
  subst hy
  refine ⟨k, ?_, by rw [List.length_set]; exact hl⟩
  have := Arv.set Ar q S M H G (fits_nar_byte x) W j.toNatClampNeg rfl (by rw [List.length_map]; exact hi)
  rw [List.map_set]
  exact this
theorem own_stI (X : Stand p l e R s m args below meth c T locs cells slots) (hx : p.tables.exec = Jvm.exec) (hZ : Z.Warmed39 s.vm) (eT : T.heap = h) (N : Fr n0 locs) {n : Int32} {xs ys : List Int32} (V : own_AI Z h a .int n xs) (ga : n0 ≤ a) {g : JFrame} (hg : g.method = m) {j x : Int32} {rest : List Value} (hs : g.stack = .int x :: .int j :: .ref a :: rest)
    (hd : decode c.code g.pc = .ok (.iastore, 1)) (hj : ¬ j < 0) (hi : j.toNatClampNeg < xs.length) (hy : xs.set j.toNatClampNeg x = ys) :
    ∃ (T' : State) (h' : Heap) (locs' : List Loc), Stand p l e R s m args below meth c T' locs' cells slots ∧ T'.heap = h' ∧ Fr n0 locs' ∧ Wr h h' a j.toNatClampNeg (.int x) ∧ own_AI Z h' a .int n ys ∧
      ∀ t, Steps p.tables e below (T'.setTop { g with pc := g.pc + 1, stack := rest }) t → Steps p.tables e below (T.setTop g) t := by
  obtain ⟨k, ⟨cl, Ar, q, S, M, H, G⟩, hl⟩ := V
  obtain ⟨T', h', X', e', W, st⟩ := stI X hx hZ eT Ar (j := j) (x := x) (inb_of S (own_bound hl hj M hi)) hg hs hd
  refine ⟨T', h', _, X', e', Fr.snoc X' N ga, W, ?_, st⟩
  subst hy
  refine ⟨k, ?_, by rw [List.length_set]; exact hl⟩
  have := Arv.set Ar q S M H G (v := .int x) rfl W j.toNatClampNeg rfl (by rw [List.length_map]; exact hi)
  rw [List.map_set]
  exact this
theorem own_stJ (X : Stand p l e R s m args below meth c T locs cells slots) (hx : p.tables.exec = Jvm.exec) (hZ : Z.Warmed39 s.vm) (eT : T.heap = h) (N : Fr n0 locs) {n : Int32} {xs ys : List Int64} (V : own_AJ Z h a n xs) (ga : n0 ≤ a) {g : JFrame} (hg : g.method = m) {j : Int32} {x : Int64} {rest : List Value} (hs : g.stack = .long x :: .int j :: .ref a :: rest)
    (hd : decode c.code g.pc = .ok (.lastore, 1)) (hj : ¬ j < 0) (hi : j.toNatClampNeg < xs.length) (hy : xs.set j.toNatClampNeg x = ys) :
    ∃ (T' : State) (h' : Heap) (locs' : List Loc), Stand p l e R s m args below meth c T' locs' cells slots ∧ T'.heap = h' ∧ Fr n0 locs' ∧ Wr h h' a j.toNatClampNeg (.long x) ∧ own_AJ Z h' a n ys ∧
      ∀ t, Steps p.tables e below (T'.setTop { g with pc := g.pc + 1, stack := rest }) t → Steps p.tables e below (T.setTop g) t := by
  obtain ⟨k, ⟨cl, Ar, q, S, M, H, G⟩, hl⟩ := V
  obtain ⟨T', h', X', e', W, st⟩ := stJ X hx hZ eT Ar (j := j) (x := x) (inb_of S (own_bound hl hj M hi)) hg hs hd
  refine ⟨T', h', _, X', e', Fr.snoc X' N ga, W, ?_, st⟩
  subst hy
  refine ⟨k, ?_, by rw [List.length_set]; exact hl⟩
  have := Arv.set Ar q S M H G (v := .long x) rfl W j.toNatClampNeg rfl (by rw [List.length_map]; exact hi)
  rw [List.map_set]
  exact this
theorem own_baload (X : Stand p l e R s m args below meth c T locs cells slots) (hx : p.tables.exec = Jvm.exec) (hZ : Z.Warmed39 s.vm) (eT : T.heap = h) {n : Int32} {xs : List Int32} (V : own_AI Z h a .byte n xs) {g : JFrame} (hg : g.method = m) {j : Int32} {rest : List Value} (hs : g.stack = .int j :: .ref a :: rest)
    (hd : decode c.code g.pc = .ok (.baload, 1)) (hj : ¬ j < 0) (hi : j.toNatClampNeg < xs.length) {w : Int32} (hv : xs.getD j.toNatClampNeg 0 = w) :
    ∀ t, Steps p.tables e below (T.setTop { g with pc := g.pc + 1, stack := .int w :: rest }) t → Steps p.tables e below (T.setTop g) t := by
  obtain ⟨k, ⟨cl, Ar, q, S, M, H, G⟩, hl⟩ := V
  have hin := inb_of (j := j) S (own_bound hl hj M hi)
  have hat := Has.at H hin (v := .int w) (by rw [own_map_getD Value.int 0, hv])
  exact fun t k => X.baloadBytes hx (j := j) (v := .int w) (by rw [eT]; exact Ar.1) (State.isArrayOf_alike hZ.alike Ar.2.1) Ar.2.2 hin hat hg hs hd _ k
theorem own_iaload (X : Stand p l e R s m args below meth c T locs cells slots) (hx : p.tables.exec = Jvm.exec) (hZ : Z.Warmed39 s.vm) (eT : T.heap = h) {n : Int32} {xs : List Int32} (V : own_AI Z h a .int n xs) {g : JFrame} (hg : g.method = m) {j : Int32} {rest : List Value} (hs : g.stack = .int j :: .ref a :: rest)
    (hd : decode c.code g.pc = .ok (.iaload, 1)) (hj : ¬ j < 0) (hi : j.toNatClampNeg < xs.length) {w : Int32} (hv : xs.getD j.toNatClampNeg 0 = w) :
    ∀ t, Steps p.tables e below (T.setTop { g with pc := g.pc + 1, stack := .int w :: rest }) t → Steps p.tables e below (T.setTop g) t := by
  obtain ⟨k, ⟨cl, Ar, q, S, M, H, G⟩, hl⟩ := V
  have hin := inb_of (j := j) S (own_bound hl hj M hi)
  have hat := Has.at H hin (v := .int w) (by rw [own_map_getD Value.int 0, hv])
  exact fun t k => X.iaload hx (j := j) (v := .int w) (by rw [eT]; exact Ar.1) (State.isArrayOf_alike hZ.alike Ar.2.1) Ar.2.2 hin hat hg hs hd _ k
theorem own_laload (X : Stand p l e R s m args below meth c T locs cells slots) (hx : p.tables.exec = Jvm.exec) (hZ : Z.Warmed39 s.vm) (eT : T.heap = h) {n : Int32} {xs : List Int64} (V : own_AJ Z h a n xs) {g : JFrame} (hg : g.method = m) {j : Int32} {rest : List Value} (hs : g.stack = .int j :: .ref a :: rest)
    (hd : decode c.code g.pc = .ok (.laload, 1)) (hj : ¬ j < 0) (hi : j.toNatClampNeg < xs.length) {w : Int64} (hv : xs.getD j.toNatClampNeg 0 = w) :
    ∀ t, Steps p.tables e below (T.setTop { g with pc := g.pc + 1, stack := .long w :: rest }) t → Steps p.tables e below (T.setTop g) t := by
  obtain ⟨k, ⟨cl, Ar, q, S, M, H, G⟩, hl⟩ := V
  have hin := inb_of (j := j) S (own_bound hl hj M hi)
  have hat := Has.at H hin (v := .long w) (by rw [own_map_getD Value.long 0, hv])
  exact fun t k => X.laload hx (j := j) (v := .long w) (by rw [eT]; exact Ar.1) (State.isArrayOf_alike hZ.alike Ar.2.1) Ar.2.2 hin hat hg hs hd _ k
theorem own_lenI (X : Stand p l e R s m args below meth c T locs cells slots) (hx : p.tables.exec = Jvm.exec) (hZ : Z.Warmed39 s.vm) (eT : T.heap = h) {ty : FieldType} {n : Int32} {xs : List Int32} (V : own_AI Z h a ty n xs) {g : JFrame} (hg : g.method = m) {rest : List Value} (hs : g.stack = .ref a :: rest)
    (hd : decode c.code g.pc = .ok (.arraylength, 1)) :
    ∀ t, Steps p.tables e below (T.setTop { g with pc := g.pc + 1, stack := .int n :: rest }) t → Steps p.tables e below (T.setTop g) t := by
  obtain ⟨k, ⟨cl, Ar, q, S, M, H, G⟩, hl⟩ := V
  intro t k
  refine X.arraylength hx (cell := cl) (by rw [eT]; exact Ar.1) (State.isArrayOf_alike hZ.alike Ar.2.1) hg hs hd _ ?_
  rw [len_of S M]
  exact k
theorem own_lenJ (X : Stand p l e R s m args below meth c T locs cells slots) (hx : p.tables.exec = Jvm.exec) (hZ : Z.Warmed39 s.vm) (eT : T.heap = h) {n : Int32} {xs : List Int64} (V : own_AJ Z h a n xs) {g : JFrame} (hg : g.method = m) {rest : List Value} (hs : g.stack = .ref a :: rest)
    (hd : decode c.code g.pc = .ok (.arraylength, 1)) :
    ∀ t, Steps p.tables e below (T.setTop { g with pc := g.pc + 1, stack := .int n :: rest }) t → Steps p.tables e below (T.setTop g) t := by
  obtain ⟨k, ⟨cl, Ar, q, S, M, H, G⟩, hl⟩ := V
  intro t k
  refine X.arraylength hx (cell := cl) (by rw [eT]; exact Ar.1) (State.isArrayOf_alike hZ.alike Ar.2.1) hg hs hd _ ?_
  rw [len_of S M]
  exact k
end OwnKit
theorem d2_0 : decode method_3_code 0 = .ok (.lload_n 0, 1) := by decide +kernel
theorem d2_1 : decode method_3_code 1 = .ok (.bipush 8, 2) := by decide +kernel
theorem d2_3 : decode method_3_code 3 = .ok (.iload_n 2, 1) := by decide +kernel
theorem d2_4 : decode method_3_code 4 = .ok (.imul, 1) := by decide +kernel
theorem d2_5 : decode method_3_code 5 = .ok (.lushr, 1) := by decide +kernel
theorem d2_6 : decode method_3_code 6 = .ok (.l2i, 1) := by decide +kernel
theorem d2_7 : decode method_3_code 7 = .ok (.i2b, 1) := by decide +kernel
theorem ef2 (m : MethodId) (x0 : Int64) (x1 : Int32) : entryFrame m #[(.long x0), (.int x1)] 3 = mkF m 0 #[.val (.long x0), .second, .val (.int x1)] [] := by first | (simp [entryFrame, mkF, argsToLocals, Value.category]; done) | rfl
theorem d2_8 : decode method_3_code 8 = .ok (.ireturn, 1) := by decide +kernel
theorem pn0 : plainName "com/example/ogma/ogma/canon/BytesCountPinLaw" = true := by first | (simp [plainName, overriddenIn]; done) | decide +kernel
def f2 (q : Int64) (k : Int32) : Int32 := (((((q.toUInt64 >>> (((8 : Int32) * k) &&& 0x3f).toInt64.toUInt64).toInt64).toInt32).toInt8.toInt32).toInt8.toInt32)
set_option maxRecDepth 65536 in
set_option maxHeartbeats 40000000 in
theorem rm2 (l : Launch) (Z : State) (a0 : Array Value) (hw : ∀ d ∈ tables_1, d.before a0 Z = true) (ws : List Jvm.Cond) (q : Int64) (k : Int32) (h0 : Heap) (n0 : Nat) :
    own_Met l Z (⟨"com/example/ogma/ogma/canon/BytesCountPinLaw", "rawByte", "(JI)B"⟩ : MethodName) method_3_code 3 (some .byte) ws ({ frames := 0, cells := 0, slots := 0, locals := 0 } : Room) #[(.long q), (.int k)] h0 (own_PQ (.int (f2 q k)) h0 n0) := by
  refine own_body (plainFor_of_name pn0) ?_
  intro p e s m below meth c T X hx hby hml hret hlk hZ hown hnm eT
  have N := Fr.nil n0
  refine own_entry (ef2 m q k) ?_
  unfold f2
  refine own_st (T' := T) (F' := (mkF m 1 #[.val (.long q), .second, .val (.int k)] [(.long q)])) (fun _ kq => XS.lloadN X.here hx rfl (hb hby d2_0) rfl kq) ?_
  refine own_st (T' := T) (F' := (mkF m 3 #[.val (.long q), .second, .val (.int k)] [(.int (8 : Int32)), (.long q)])) (fun _ kq => XS.bipush X.here hx rfl (hb hby d2_1) kq) ?_
  refine own_st (T' := T) (F' := (mkF m 4 #[.val (.long q), .second, .val (.int k)] [(.int k), (.int (8 : Int32)), (.long q)])) (fun _ kq => XS.iloadN X.here hx rfl (hb hby d2_3) rfl kq) ?_
  refine own_st (T' := T) (F' := (mkF m 5 #[.val (.long q), .second, .val (.int k)] [(.int ((8 : Int32) * k)), (.long q)])) (fun _ kq => XS.imul X.here hx rfl (hb hby d2_4) rfl kq) ?_
  refine own_st (T' := T) (F' := (mkF m 6 #[.val (.long q), .second, .val (.int k)] [(.long ((q.toUInt64 >>> (((8 : Int32) * k) &&& 0x3f).toInt64.toUInt64).toInt64))])) (fun _ kq => XS.lushr X.here hx rfl (hb hby d2_5) rfl kq) ?_
  refine own_st (T' := T) (F' := (mkF m 7 #[.val (.long q), .second, .val (.int k)] [(.int (((q.toUInt64 >>> (((8 : Int32) * k) &&& 0x3f).toInt64.toUInt64).toInt64).toInt32))])) (fun _ kq => XS.l2i X.here hx rfl (hb hby d2_6) rfl kq) ?_
  refine own_st (T' := T) (F' := (mkF m 8 #[.val (.long q), .second, .val (.int k)] [(.int ((((q.toUInt64 >>> (((8 : Int32) * k) &&& 0x3f).toInt64.toUInt64).toInt64).toInt32).toInt8.toInt32))])) (fun _ kq => XS.i2b X.here hx rfl (hb hby d2_7) rfl kq) ?_
  exact own_retN X hx hlk hret (by simp) (hb hby d2_8) (by decide) (by decide) (own_PQi rfl N eT)
theorem d1_0 : decode method_4_code 0 = .ok (.iload_n 3, 1) := by decide +kernel
theorem d1_1 : decode method_4_code 1 = .ok (.iload_n 2, 1) := by decide +kernel
theorem d1_2 : decode method_4_code 2 = .ok (.ishr, 1) := by decide +kernel
theorem d1_3 : decode method_4_code 3 = .ok (.iconst 1, 1) := by decide +kernel
theorem d1_4 : decode method_4_code 4 = .ok (.iand, 1) := by decide +kernel
theorem d1_12 : decode method_4_code 12 = .ok (.lload_n 0, 1) := by decide +kernel
theorem d1_13 : decode method_4_code 13 = .ok (.iload_n 2, 1) := by decide +kernel
theorem pd0 : parseMethodDescriptor "(JI)B" = some ⟨[.long, .int], some .byte⟩ := by decide +kernel
theorem d1_14 : decode method_4_code 14 = .ok (.invokestatic 24, 3) := by decide +kernel
theorem d1_8 : decode method_4_code 8 = .ok (.iload 4, 2) := by decide +kernel
theorem d1_10 : decode method_4_code 10 = .ok (.i2b, 1) := by decide +kernel
theorem ef1 (m : MethodId) (x0 : Int64) (x1 : Int32) (x2 : Int32) (x3 : Int32) : entryFrame m #[(.long x0), (.int x1), (.int x2), (.int x3)] 5 = mkF m 0 #[.val (.long x0), .second, .val (.int x1), .val (.int x2), .val (.int x3)] [] := by first | (simp [entryFrame, mkF, argsToLocals, Value.category]; done) | rfl
theorem d1_5 : decode method_4_code 5 = .ok (.ifCond .eq 7, 3) := by decide +kernel
theorem d1_17 : decode method_4_code 17 = .ok (.ireturn, 1) := by decide +kernel
theorem d1_11 : decode method_4_code 11 = .ok (.ireturn, 1) := by decide +kernel
def f1 (q : Int64) (k : Int32) (mk : Int32) (ch : Int32) : Int32 := if ((mk >>> (k &&& 31)) &&& (1 : Int32)) = (0 : Int32) then (((f2 q k).toInt8.toInt32)) else (((ch.toInt8.toInt32).toInt8.toInt32))
set_option maxRecDepth 65536 in
set_option maxHeartbeats 40000000 in
theorem rm1 (l : Launch) (Z : State) (a0 : Array Value) (hw : ∀ d ∈ tables_1, d.before a0 Z = true) (ws : List Jvm.Cond) (q : Int64) (k : Int32) (mk : Int32) (ch : Int32) (h0 : Heap) (n0 : Nat) :
    own_Met l Z (⟨"com/example/ogma/ogma/canon/BytesCountPinLaw", "pick", "(JIIC)B"⟩ : MethodName) method_4_code 5 (some .byte) ws ({ frames := 1, cells := 0, slots := 0, locals := 14 } : Room) #[(.long q), (.int k), (.int mk), (.int ch)] h0 (own_PQ (.int (f1 q k mk ch)) h0 n0) := by
  refine own_body (plainFor_of_name pn0) ?_
  intro p e s m below meth c T X hx hby hml hret hlk hZ hown hnm eT
  have N := Fr.nil n0
  refine own_entry (ef1 m q k mk ch) ?_
  unfold f1
  refine own_st (T' := T) (F' := (mkF m 1 #[.val (.long q), .second, .val (.int k), .val (.int mk), .val (.int ch)] [(.int mk)])) (fun _ kq => XS.iloadN X.here hx rfl (hb hby d1_0) rfl kq) ?_
  refine own_st (T' := T) (F' := (mkF m 2 #[.val (.long q), .second, .val (.int k), .val (.int mk), .val (.int ch)] [(.int k), (.int mk)])) (fun _ kq => XS.iloadN X.here hx rfl (hb hby d1_1) rfl kq) ?_
  refine own_st (T' := T) (F' := (mkF m 3 #[.val (.long q), .second, .val (.int k), .val (.int mk), .val (.int ch)] [(.int (mk >>> (k &&& 31)))])) (fun _ kq => XS.ishr X.here hx rfl (hb hby d1_2) rfl kq) ?_
  refine own_st (T' := T) (F' := (mkF m 4 #[.val (.long q), .second, .val (.int k), .val (.int mk), .val (.int ch)] [(.int (1 : Int32)), (.int (mk >>> (k &&& 31)))])) (fun _ kq => XS.iconst X.here hx rfl (hb hby d1_3) kq) ?_
  refine own_st (T' := T) (F' := (mkF m 5 #[.val (.long q), .second, .val (.int k), .val (.int mk), .val (.int ch)] [(.int ((mk >>> (k &&& 31)) &&& (1 : Int32)))])) (fun _ kq => XS.iand X.here hx rfl (hb hby d1_4) rfl kq) ?_
  by_cases hc5_2 : ((mk >>> (k &&& 31)) &&& (1 : Int32)) = (0 : Int32)
  ·
    rw [if_pos hc5_2]
    refine own_st (T' := T) (F' := (mkF m 12 #[.val (.long q), .second, .val (.int k), .val (.int mk), .val (.int ch)] [])) (fun _ kq => XS.ifYes X.here hx rfl (pc0 := 5) (pc' := 12) rfl (hb hby d1_5) rfl ((if0 _ _).trans (teq hc5_2).1) (by decide) (by decide) kq) ?_
    refine own_st (T' := T) (F' := (mkF m 13 #[.val (.long q), .second, .val (.int k), .val (.int mk), .val (.int ch)] [(.long q)])) (fun _ kq => XS.lloadN X.here hx rfl (hb hby d1_12) rfl kq) ?_
    refine own_st (T' := T) (F' := (mkF m 14 #[.val (.long q), .second, .val (.int k), .val (.int mk), .val (.int ch)] [(.int k), (.long q)])) (fun _ kq => XS.iloadN X.here hx rfl (hb hby d1_13) rfl kq) ?_
    obtain ⟨T3, locs3, X3, e3, N3, st3⟩ := own_callP X hx hZ 0 hown (hw _ (List.mem_of_getElem? (i := 5) rfl)) (hw _ (List.mem_of_getElem? (i := 6) rfl)) (hw _ (List.mem_of_getElem? (i := 3) rfl)) (hw _ (List.mem_of_getElem? (i := 7) rfl)) (by decide) (rm2 l Z a0 hw [] q k h0 n0) (by decide) (by decide) rfl rfl eT N (by decide) (by decide) (g := (mkF m 14 #[.val (.long q), .second, .val (.int k), .val (.int mk), .val (.int ch)] [(.int k), (.long q)])) rfl (by rw [hml]; rfl) (argsL := [(.long q), (.int k)]) (rest := []) (lenOf pd0 rfl) rfl rfl (by show 2 * 0 + _ ≤ _; exact Nat.le_of_eq rfl) (hb hby d1_14)
    refine own_st (T' := T3) (F' := (mkF m 17 #[.val (.long q), .second, .val (.int k), .val (.int mk), .val (.int ch)] [(.int (f2 q k))])) (st3) ?_
    exact own_retN X3 hx hlk hret (by simp) (hb hby d1_17) (by decide) (by decide) (own_PQi rfl N3 e3)
  ·
    rw [if_neg hc5_2]
    refine own_st (T' := T) (F' := (mkF m 8 #[.val (.long q), .second, .val (.int k), .val (.int mk), .val (.int ch)] [])) (fun _ kq => XS.ifNo X.here hx rfl (hb hby d1_5) rfl ((if0 _ _).trans (feq hc5_2).1) kq) ?_
    refine own_st (T' := T) (F' := (mkF m 10 #[.val (.long q), .second, .val (.int k), .val (.int mk), .val (.int ch)] [(.int ch)])) (fun _ kq => XS.iload X.here hx rfl (hb hby d1_8) rfl kq) ?_
    refine own_st (T' := T) (F' := (mkF m 11 #[.val (.long q), .second, .val (.int k), .val (.int mk), .val (.int ch)] [(.int (ch.toInt8.toInt32))])) (fun _ kq => XS.i2b X.here hx rfl (hb hby d1_10) rfl kq) ?_
    exact own_retN X hx hlk hret (by simp) (hb hby d1_11) (by decide) (by decide) (own_PQi rfl N eT)
theorem d3_0 : decode method_5_code 0 = .ok (.iload_n 2, 1) := by decide +kernel
theorem d3_1 : decode method_5_code 1 = .ok (.iload 5, 2) := by decide +kernel
theorem d3_12 : decode method_5_code 12 = .ok (.iconst 0, 1) := by decide +kernel
theorem d3_6 : decode method_5_code 6 = .ok (.iload_n 2, 1) := by decide +kernel
theorem d3_7 : decode method_5_code 7 = .ok (.iload 6, 2) := by decide +kernel
theorem d3_14 : decode method_5_code 14 = .ok (.iload_n 3, 1) := by decide +kernel
theorem d3_15 : decode method_5_code 15 = .ok (.iload_n 2, 1) := by decide +kernel
theorem d3_16 : decode method_5_code 16 = .ok (.ishr, 1) := by decide +kernel
theorem d3_17 : decode method_5_code 17 = .ok (.iconst 1, 1) := by decide +kernel
theorem d3_18 : decode method_5_code 18 = .ok (.iand, 1) := by decide +kernel
theorem d3_24 : decode method_5_code 24 = .ok (.lload_n 0, 1) := by decide +kernel
theorem d3_25 : decode method_5_code 25 = .ok (.iload_n 2, 1) := by decide +kernel
theorem d3_26 : decode method_5_code 26 = .ok (.invokestatic 24, 3) := by decide +kernel
theorem d3_29 : decode method_5_code 29 = .ok (.iload 4, 2) := by decide +kernel
theorem d3_34 : decode method_5_code 34 = .ok (.iconst 1, 1) := by decide +kernel
theorem d3_36 : decode method_5_code 36 = .ok (.iconst 0, 1) := by decide +kernel
theorem d3_22 : decode method_5_code 22 = .ok (.iconst 1, 1) := by decide +kernel
theorem ef3 (m : MethodId) (x0 : Int64) (x1 : Int32) (x2 : Int32) (x3 : Int32) (x4 : Int32) (x5 : Int32) : entryFrame m #[(.long x0), (.int x1), (.int x2), (.int x3), (.int x4), (.int x5)] 7 = mkF m 0 #[.val (.long x0), .second, .val (.int x1), .val (.int x2), .val (.int x3), .val (.int x4), .val (.int x5)] [] := by first | (simp [entryFrame, mkF, argsToLocals, Value.category]; done) | rfl
theorem d3_3 : decode method_5_code 3 = .ok (.if_icmp .lt 9, 3) := by decide +kernel
theorem d3_13 : decode method_5_code 13 = .ok (.ireturn, 1) := by decide +kernel
theorem d3_9 : decode method_5_code 9 = .ok (.if_icmp .lt 5, 3) := by decide +kernel
theorem d3_19 : decode method_5_code 19 = .ok (.ifCond .eq 5, 3) := by decide +kernel
theorem d3_31 : decode method_5_code 31 = .ok (.if_icmp .ne 5, 3) := by decide +kernel
theorem d3_35 : decode method_5_code 35 = .ok (.ireturn, 1) := by decide +kernel
theorem d3_37 : decode method_5_code 37 = .ok (.ireturn, 1) := by decide +kernel
theorem d3_23 : decode method_5_code 23 = .ok (.ireturn, 1) := by decide +kernel
def f3 (q : Int64) (k : Int32) (mk : Int32) (ch : Int32) (fr : Int32) (to : Int32) : Int32 := if k < fr then ((0 : Int32)) else (if k < to then (if ((mk >>> (k &&& 31)) &&& (1 : Int32)) = (0 : Int32) then (if (f2 q k) = ch then ((1 : Int32)) else ((0 : Int32))) else ((1 : Int32))) else ((0 : Int32)))
set_option maxRecDepth 65536 in
set_option maxHeartbeats 40000000 in
theorem rm3 (l : Launch) (Z : State) (a0 : Array Value) (hw : ∀ d ∈ tables_1, d.before a0 Z = true) (ws : List Jvm.Cond) (q : Int64) (k : Int32) (mk : Int32) (ch : Int32) (fr : Int32) (to : Int32) (h0 : Heap) (n0 : Nat) :
    own_Met l Z (⟨"com/example/ogma/ogma/canon/BytesCountPinLaw", "hit", "(JIICII)I"⟩ : MethodName) method_5_code 7 (some .int) ws ({ frames := 1, cells := 0, slots := 0, locals := 14 } : Room) #[(.long q), (.int k), (.int mk), (.int ch), (.int fr), (.int to)] h0 (own_PQ (.int (f3 q k mk ch fr to)) h0 n0) := by
  refine own_body (plainFor_of_name pn0) ?_
  intro p e s m below meth c T X hx hby hml hret hlk hZ hown hnm eT
  have N := Fr.nil n0
  refine own_entry (ef3 m q k mk ch fr to) ?_
  unfold f3
  refine own_st (T' := T) (F' := (mkF m 1 #[.val (.long q), .second, .val (.int k), .val (.int mk), .val (.int ch), .val (.int fr), .val (.int to)] [(.int k)])) (fun _ kq => XS.iloadN X.here hx rfl (hb hby d3_0) rfl kq) ?_
  refine own_st (T' := T) (F' := (mkF m 3 #[.val (.long q), .second, .val (.int k), .val (.int mk), .val (.int ch), .val (.int fr), .val (.int to)] [(.int fr), (.int k)])) (fun _ kq => XS.iload X.here hx rfl (hb hby d3_1) rfl kq) ?_
  by_cases hc3_5 : k < fr
  ·
    rw [if_pos hc3_5]
    refine own_st (T' := T) (F' := (mkF m 12 #[.val (.long q), .second, .val (.int k), .val (.int mk), .val (.int ch), .val (.int fr), .val (.int to)] [])) (fun _ kq => XS.icmpYes X.here hx rfl (pc0 := 3) (pc' := 12) rfl (hb hby d3_3) rfl (tlt hc3_5).1 (by decide) (by decide) kq) ?_
    refine own_st (T' := T) (F' := (mkF m 13 #[.val (.long q), .second, .val (.int k), .val (.int mk), .val (.int ch), .val (.int fr), .val (.int to)] [(.int (0 : Int32))])) (fun _ kq => XS.iconst X.here hx rfl (hb hby d3_12) kq) ?_
    exact own_retI X hx hlk hret (hb hby d3_13) (by decide) (by decide) (own_PQi rfl N eT)
  ·
    rw [if_neg hc3_5]
    refine own_st (T' := T) (F' := (mkF m 6 #[.val (.long q), .second, .val (.int k), .val (.int mk), .val (.int ch), .val (.int fr), .val (.int to)] [])) (fun _ kq => XS.icmpNo X.here hx rfl (hb hby d3_3) rfl (flt hc3_5).1 kq) ?_
    refine own_st (T' := T) (F' := (mkF m 7 #[.val (.long q), .second, .val (.int k), .val (.int mk), .val (.int ch), .val (.int fr), .val (.int to)] [(.int k)])) (fun _ kq => XS.iloadN X.here hx rfl (hb hby d3_6) rfl kq) ?_
    refine own_st (T' := T) (F' := (mkF m 9 #[.val (.long q), .second, .val (.int k), .val (.int mk), .val (.int ch), .val (.int fr), .val (.int to)] [(.int to), (.int k)])) (fun _ kq => XS.iload X.here hx rfl (hb hby d3_7) rfl kq) ?_
    by_cases hc9_6 : k < to
    ·
      rw [if_pos hc9_6]
      refine own_st (T' := T) (F' := (mkF m 14 #[.val (.long q), .second, .val (.int k), .val (.int mk), .val (.int ch), .val (.int fr), .val (.int to)] [])) (fun _ kq => XS.icmpYes X.here hx rfl (pc0 := 9) (pc' := 14) rfl (hb hby d3_9) rfl (tlt hc9_6).1 (by decide) (by decide) kq) ?_
      refine own_st (T' := T) (F' := (mkF m 15 #[.val (.long q), .second, .val (.int k), .val (.int mk), .val (.int ch), .val (.int fr), .val (.int to)] [(.int mk)])) (fun _ kq => XS.iloadN X.here hx rfl (hb hby d3_14) rfl kq) ?_
      refine own_st (T' := T) (F' := (mkF m 16 #[.val (.long q), .second, .val (.int k), .val (.int mk), .val (.int ch), .val (.int fr), .val (.int to)] [(.int k), (.int mk)])) (fun _ kq => XS.iloadN X.here hx rfl (hb hby d3_15) rfl kq) ?_
      refine own_st (T' := T) (F' := (mkF m 17 #[.val (.long q), .second, .val (.int k), .val (.int mk), .val (.int ch), .val (.int fr), .val (.int to)] [(.int (mk >>> (k &&& 31)))])) (fun _ kq => XS.ishr X.here hx rfl (hb hby d3_16) rfl kq) ?_
      refine own_st (T' := T) (F' := (mkF m 18 #[.val (.long q), .second, .val (.int k), .val (.int mk), .val (.int ch), .val (.int fr), .val (.int to)] [(.int (1 : Int32)), (.int (mk >>> (k &&& 31)))])) (fun _ kq => XS.iconst X.here hx rfl (hb hby d3_17) kq) ?_
      refine own_st (T' := T) (F' := (mkF m 19 #[.val (.long q), .second, .val (.int k), .val (.int mk), .val (.int ch), .val (.int fr), .val (.int to)] [(.int ((mk >>> (k &&& 31)) &&& (1 : Int32)))])) (fun _ kq => XS.iand X.here hx rfl (hb hby d3_18) rfl kq) ?_
      by_cases hc19_7 : ((mk >>> (k &&& 31)) &&& (1 : Int32)) = (0 : Int32)
      ·
        rw [if_pos hc19_7]
        refine own_st (T' := T) (F' := (mkF m 24 #[.val (.long q), .second, .val (.int k), .val (.int mk), .val (.int ch), .val (.int fr), .val (.int to)] [])) (fun _ kq => XS.ifYes X.here hx rfl (pc0 := 19) (pc' := 24) rfl (hb hby d3_19) rfl ((if0 _ _).trans (teq hc19_7).1) (by decide) (by decide) kq) ?_
        refine own_st (T' := T) (F' := (mkF m 25 #[.val (.long q), .second, .val (.int k), .val (.int mk), .val (.int ch), .val (.int fr), .val (.int to)] [(.long q)])) (fun _ kq => XS.lloadN X.here hx rfl (hb hby d3_24) rfl kq) ?_
        refine own_st (T' := T) (F' := (mkF m 26 #[.val (.long q), .second, .val (.int k), .val (.int mk), .val (.int ch), .val (.int fr), .val (.int to)] [(.int k), (.long q)])) (fun _ kq => XS.iloadN X.here hx rfl (hb hby d3_25) rfl kq) ?_
        obtain ⟨T8, locs8, X8, e8, N8, st8⟩ := own_callP X hx hZ 0 hown (hw _ (List.mem_of_getElem? (i := 5) rfl)) (hw _ (List.mem_of_getElem? (i := 6) rfl)) (hw _ (List.mem_of_getElem? (i := 3) rfl)) (hw _ (List.mem_of_getElem? (i := 7) rfl)) (by decide) (rm2 l Z a0 hw [] q k h0 n0) (by decide) (by decide) rfl rfl eT N (by decide) (by decide) (g := (mkF m 26 #[.val (.long q), .second, .val (.int k), .val (.int mk), .val (.int ch), .val (.int fr), .val (.int to)] [(.int k), (.long q)])) rfl (by rw [hml]; rfl) (argsL := [(.long q), (.int k)]) (rest := []) (lenOf pd0 rfl) rfl rfl (by show 2 * 0 + _ ≤ _; exact Nat.le_of_eq rfl) (hb hby d3_26)
        refine own_st (T' := T8) (F' := (mkF m 29 #[.val (.long q), .second, .val (.int k), .val (.int mk), .val (.int ch), .val (.int fr), .val (.int to)] [(.int (f2 q k))])) (st8) ?_
        refine own_st (T' := T8) (F' := (mkF m 31 #[.val (.long q), .second, .val (.int k), .val (.int mk), .val (.int ch), .val (.int fr), .val (.int to)] [(.int ch), (.int (f2 q k))])) (fun _ kq => XS.iload X8.here hx rfl (hb hby d3_29) rfl kq) ?_
        by_cases hc31_9 : (f2 q k) = ch
        ·
          rw [if_pos hc31_9]
          refine own_st (T' := T8) (F' := (mkF m 34 #[.val (.long q), .second, .val (.int k), .val (.int mk), .val (.int ch), .val (.int fr), .val (.int to)] [])) (fun _ kq => XS.icmpNo X8.here hx rfl (hb hby d3_31) rfl (teq hc31_9).2 kq) ?_
          refine own_st (T' := T8) (F' := (mkF m 35 #[.val (.long q), .second, .val (.int k), .val (.int mk), .val (.int ch), .val (.int fr), .val (.int to)] [(.int (1 : Int32))])) (fun _ kq => XS.iconst X8.here hx rfl (hb hby d3_34) kq) ?_
          exact own_retI X8 hx hlk hret (hb hby d3_35) (by decide) (by decide) (own_PQi rfl N8 e8)
        ·
          rw [if_neg hc31_9]
          refine own_st (T' := T8) (F' := (mkF m 36 #[.val (.long q), .second, .val (.int k), .val (.int mk), .val (.int ch), .val (.int fr), .val (.int to)] [])) (fun _ kq => XS.icmpYes X8.here hx rfl (pc0 := 31) (pc' := 36) rfl (hb hby d3_31) rfl (feq hc31_9).2 (by decide) (by decide) kq) ?_
          refine own_st (T' := T8) (F' := (mkF m 37 #[.val (.long q), .second, .val (.int k), .val (.int mk), .val (.int ch), .val (.int fr), .val (.int to)] [(.int (0 : Int32))])) (fun _ kq => XS.iconst X8.here hx rfl (hb hby d3_36) kq) ?_
          exact own_retI X8 hx hlk hret (hb hby d3_37) (by decide) (by decide) (own_PQi rfl N8 e8)
      ·
        rw [if_neg hc19_7]
        refine own_st (T' := T) (F' := (mkF m 22 #[.val (.long q), .second, .val (.int k), .val (.int mk), .val (.int ch), .val (.int fr), .val (.int to)] [])) (fun _ kq => XS.ifNo X.here hx rfl (hb hby d3_19) rfl ((if0 _ _).trans (feq hc19_7).1) kq) ?_
        refine own_st (T' := T) (F' := (mkF m 23 #[.val (.long q), .second, .val (.int k), .val (.int mk), .val (.int ch), .val (.int fr), .val (.int to)] [(.int (1 : Int32))])) (fun _ kq => XS.iconst X.here hx rfl (hb hby d3_22) kq) ?_
        exact own_retI X hx hlk hret (hb hby d3_23) (by decide) (by decide) (own_PQi rfl N eT)
    ·
      rw [if_neg hc9_6]
      refine own_st (T' := T) (F' := (mkF m 12 #[.val (.long q), .second, .val (.int k), .val (.int mk), .val (.int ch), .val (.int fr), .val (.int to)] [])) (fun _ kq => XS.icmpNo X.here hx rfl (hb hby d3_9) rfl (flt hc9_6).1 kq) ?_
      refine own_st (T' := T) (F' := (mkF m 13 #[.val (.long q), .second, .val (.int k), .val (.int mk), .val (.int ch), .val (.int fr), .val (.int to)] [(.int (0 : Int32))])) (fun _ kq => XS.iconst X.here hx rfl (hb hby d3_12) kq) ?_
      exact own_retI X hx hlk hret (hb hby d3_13) (by decide) (by decide) (own_PQi rfl N eT)

def own_ct (xs : List Int32) (ch to : Int32) : Nat → Int32 → Int32 → Int32
  | 0, _, acc => acc
  | k + 1, i, acc => if i < to then (if xs.getD i.toNatClampNeg 0 = ch then own_ct xs ch to k (i + 1) (acc + 1) else own_ct xs ch to k (i + 1) acc) else acc
theorem own_nlt {i to : Int32} (h : to.toInt - i.toInt ≤ (0 : Nat)) : ¬ i < to := by
  rw [Int32.lt_iff_toInt_lt]; omega
theorem own_inc {i to : Int32} (h : i < to) : (i + 1).toInt = i.toInt + 1 := by
  rw [Int32.lt_iff_toInt_lt] at h
  have := c_iadd i 1
  have e1 : (1 : Int32).toInt = 1 := rfl
  have := rng32 i; have := rng32 to; have := rng32 (i + 1)
  omega
theorem own_nn {i to : Int32} (hi : ¬ i < 0) (h : i < to) : ¬ i + 1 < 0 := by
  have := own_inc h
  have e0 : (0 : Int32).toInt = 0 := rfl
  rw [Int32.lt_iff_toInt_lt] at hi ⊢; omega
theorem own_left {i to : Int32} {k : Nat} (hk : to.toInt - i.toInt ≤ ((k + 1 : Nat) : Int)) (h : i < to) : to.toInt - (i + 1).toInt ≤ (k : Int) := by
  have := own_inc h
  omega
theorem own_in {i to : Int32} {L : Nat} (ht : to.toInt ≤ (L : Int)) (hi : ¬ i < 0) (h : i < to) : i.toNatClampNeg < L := by
  have e0 : (0 : Int32).toInt = 0 := rfl
  rw [Int32.lt_iff_toInt_lt] at hi h
  simp only [Int32.toNatClampNeg]; omega
theorem pn1 : plainName "com/example/ogma/ogma/canon/Bytes" = true := by first | (simp [plainName, overriddenIn]; done) | decide +kernel
theorem ef4 (m : MethodId) (x0 : Addr) (x1 : Int32) (x2 : Int32) (x3 : Int32) : entryFrame m #[(.ref x0), (.int x1), (.int x2), (.int x3)] 6 = mkF m 0 #[.val (.ref x0), .val (.int x1), .val (.int x2), .val (.int x3), .unset, .unset] [] := by first | (simp [entryFrame, mkF, argsToLocals, Value.category]; done) | rfl
theorem d4_6 : decode prog_1_method_3_code 6 = .ok (.iload 5, 2) := by decide +kernel
theorem d4_8 : decode prog_1_method_3_code 8 = .ok (.iload_n 3, 1) := by decide +kernel
theorem d4_9 : decode prog_1_method_3_code 9 = .ok (.if_icmp .ge 20, 3) := by decide +kernel
theorem d4_29 : decode prog_1_method_3_code 29 = .ok (.iload 4, 2) := by decide +kernel
theorem d4_31 : decode prog_1_method_3_code 31 = .ok (.ireturn, 1) := by decide +kernel
theorem d4_12 : decode prog_1_method_3_code 12 = .ok (.aload_n 0, 1) := by decide +kernel
theorem d4_13 : decode prog_1_method_3_code 13 = .ok (.iload 5, 2) := by decide +kernel
theorem d4_15 : decode prog_1_method_3_code 15 = .ok (.baload, 1) := by decide +kernel
theorem d4_16 : decode prog_1_method_3_code 16 = .ok (.iload_n 1, 1) := by decide +kernel
theorem d4_17 : decode prog_1_method_3_code 17 = .ok (.if_icmp .ne 6, 3) := by decide +kernel
theorem d4_20 : decode prog_1_method_3_code 20 = .ok (.iinc 4 1, 3) := by decide +kernel
theorem d4_23 : decode prog_1_method_3_code 23 = .ok (.iinc 5 1, 3) := by decide +kernel
theorem d4_26 : decode prog_1_method_3_code 26 = .ok (.goto (-20), 3) := by decide +kernel
theorem d4_0 : decode prog_1_method_3_code 0 = .ok (.iconst 0, 1) := by decide +kernel
theorem d4_1 : decode prog_1_method_3_code 1 = .ok (.istore 4, 2) := by decide +kernel
theorem d4_3 : decode prog_1_method_3_code 3 = .ok (.iload_n 2, 1) := by decide +kernel
theorem d4_4 : decode prog_1_method_3_code 4 = .ok (.istore 5, 2) := by decide +kernel
set_option maxRecDepth 65536 in
set_option maxHeartbeats 40000000 in
theorem rm4 (l : Launch) (Z : State) (a0 : Array Value) (hw : ∀ d ∈ tables_1, d.before a0 Z = true) (ws : List Jvm.Cond) (a : Addr) (ch : Int32) (fr : Int32) (to : Int32) (n : Int32) (xs : List Int32) (h0 : Heap) (n0 : Nat) (V : own_AI Z h0 a .byte n xs) (hf : ¬ fr < 0) (ht : to.toInt ≤ (xs.length : Int)) (hk : to.toInt - fr.toInt ≤ ((5 : Nat) : Int)) :
    own_Met l Z (⟨"com/example/ogma/ogma/canon/Bytes", "count", "([BCII)I"⟩ : MethodName) prog_1_method_3_code 6 (some .int) ws ({ frames := 0, cells := 0, slots := 0, locals := 0 } : Room) #[(.ref a), (.int ch), (.int fr), (.int to)] h0 (own_PQ (.int (own_ct xs ch to 5 fr 0)) h0 n0) := by
  refine own_body (plainFor_of_name pn1) ?_
  intro p e s m below meth c T X hx hby hml hret hlk hZ hown hnm eT
  have N := Fr.nil n0
  refine own_entry (ef4 m a ch fr to) ?_
  have loop : ∀ (k : Nat) (i acc : Int32), ¬ i < 0 → to.toInt - i.toInt ≤ (k : Int) → own_Ends p e below s 0 0 (own_PQ (.int (own_ct xs ch to k i acc)) h0 n0) T (mkF m 6 #[.val (.ref a), .val (.int ch), .val (.int fr), .val (.int to), .val (.int acc), .val (.int i)] []) := by
    intro k
    induction k with
    | zero =>
      intro i acc hi hk
      rw [own_ct]
      refine own_st (T' := T) (F' := (mkF m 8 #[.val (.ref a), .val (.int ch), .val (.int fr), .val (.int to), .val (.int acc), .val (.int i)] [(.int i)])) (fun _ kq => XS.iload X.here hx rfl (hb hby d4_6) rfl kq) ?_
      refine own_st (T' := T) (F' := (mkF m 9 #[.val (.ref a), .val (.int ch), .val (.int fr), .val (.int to), .val (.int acc), .val (.int i)] [(.int to), (.int i)])) (fun _ kq => XS.iloadN X.here hx rfl (hb hby d4_8) rfl kq) ?_
      refine own_st (T' := T) (F' := (mkF m 29 #[.val (.ref a), .val (.int ch), .val (.int fr), .val (.int to), .val (.int acc), .val (.int i)] [])) (fun _ kq => XS.icmpYes X.here hx rfl (pc0 := 9) (pc' := 29) rfl (hb hby d4_9) rfl (flt (own_nlt hk)).2.1 (by decide) (by decide) kq) ?_
      refine own_st (T' := T) (F' := (mkF m 31 #[.val (.ref a), .val (.int ch), .val (.int fr), .val (.int to), .val (.int acc), .val (.int i)] [(.int acc)])) (fun _ kq => XS.iload X.here hx rfl (hb hby d4_29) rfl kq) ?_
      exact own_retI X hx hlk hret (hb hby d4_31) (by decide) (by decide) (own_PQi rfl N eT)
    | succ k ih =>
      intro i acc hi hk
      rw [own_ct]
      refine own_st (T' := T) (F' := (mkF m 8 #[.val (.ref a), .val (.int ch), .val (.int fr), .val (.int to), .val (.int acc), .val (.int i)] [(.int i)])) (fun _ kq => XS.iload X.here hx rfl (hb hby d4_6) rfl kq) ?_
      refine own_st (T' := T) (F' := (mkF m 9 #[.val (.ref a), .val (.int ch), .val (.int fr), .val (.int to), .val (.int acc), .val (.int i)] [(.int to), (.int i)])) (fun _ kq => XS.iloadN X.here hx rfl (hb hby d4_8) rfl kq) ?_
      by_cases hc9_10 : i < to
      ·
        rw [if_pos hc9_10]
        refine own_st (T' := T) (F' := (mkF m 12 #[.val (.ref a), .val (.int ch), .val (.int fr), .val (.int to), .val (.int acc), .val (.int i)] [])) (fun _ kq => XS.icmpNo X.here hx rfl (hb hby d4_9) rfl (tlt hc9_10).2.1 kq) ?_
        refine own_st (T' := T) (F' := (mkF m 13 #[.val (.ref a), .val (.int ch), .val (.int fr), .val (.int to), .val (.int acc), .val (.int i)] [(.ref a)])) (fun _ kq => XS.aloadN X.here hx rfl (hb hby d4_12) rfl rfl kq) ?_
        refine own_st (T' := T) (F' := (mkF m 15 #[.val (.ref a), .val (.int ch), .val (.int fr), .val (.int to), .val (.int acc), .val (.int i)] [(.int i), (.ref a)])) (fun _ kq => XS.iload X.here hx rfl (hb hby d4_13) rfl kq) ?_
        refine own_st (T' := T) (F' := (mkF m 16 #[.val (.ref a), .val (.int ch), .val (.int fr), .val (.int to), .val (.int acc), .val (.int i)] [(.int (xs.getD i.toNatClampNeg 0))])) (own_baload X hx hZ eT V (g := (mkF m 15 #[.val (.ref a), .val (.int ch), .val (.int fr), .val (.int to), .val (.int acc), .val (.int i)] [(.int i), (.ref a)])) rfl rfl (hb hby d4_15) hi (own_in ht hi hc9_10) (w := (xs.getD i.toNatClampNeg 0)) rfl) ?_
        refine own_st (T' := T) (F' := (mkF m 17 #[.val (.ref a), .val (.int ch), .val (.int fr), .val (.int to), .val (.int acc), .val (.int i)] [(.int ch), (.int (xs.getD i.toNatClampNeg 0))])) (fun _ kq => XS.iloadN X.here hx rfl (hb hby d4_16) rfl kq) ?_
        by_cases hc17_11 : (xs.getD i.toNatClampNeg 0) = ch
        ·
          rw [if_pos hc17_11]
          refine own_st (T' := T) (F' := (mkF m 20 #[.val (.ref a), .val (.int ch), .val (.int fr), .val (.int to), .val (.int acc), .val (.int i)] [])) (fun _ kq => XS.icmpNo X.here hx rfl (hb hby d4_17) rfl (teq hc17_11).2 kq) ?_
          refine own_st (T' := T) (F' := (mkF m 23 #[.val (.ref a), .val (.int ch), .val (.int fr), .val (.int to), .val (.int (acc + (1 : Int32))), .val (.int i)] [])) (fun _ kq => XS.iinc X.here hx rfl (hb hby d4_20) rfl (l' := #[.val (.ref a), .val (.int ch), .val (.int fr), .val (.int to), .val (.int (acc + (1 : Int32))), .val (.int i)]) rfl kq) ?_
          refine own_st (T' := T) (F' := (mkF m 26 #[.val (.ref a), .val (.int ch), .val (.int fr), .val (.int to), .val (.int (acc + (1 : Int32))), .val (.int (i + (1 : Int32)))] [])) (fun _ kq => XS.iinc X.here hx rfl (hb hby d4_23) rfl (l' := #[.val (.ref a), .val (.int ch), .val (.int fr), .val (.int to), .val (.int (acc + (1 : Int32))), .val (.int (i + (1 : Int32)))]) rfl kq) ?_
          refine own_st (T' := T) (F' := (mkF m 6 #[.val (.ref a), .val (.int ch), .val (.int fr), .val (.int to), .val (.int (acc + (1 : Int32))), .val (.int (i + (1 : Int32)))] [])) (fun _ kq => XS.goto X.here hx rfl (pc0 := 26) (pc' := 6) rfl (hb hby d4_26) (by decide) (by decide) kq) ?_
          exact ih _ _ (own_nn hi hc9_10) (own_left hk hc9_10)
        ·
          rw [if_neg hc17_11]
          refine own_st (T' := T) (F' := (mkF m 23 #[.val (.ref a), .val (.int ch), .val (.int fr), .val (.int to), .val (.int acc), .val (.int i)] [])) (fun _ kq => XS.icmpYes X.here hx rfl (pc0 := 17) (pc' := 23) rfl (hb hby d4_17) rfl (feq hc17_11).2 (by decide) (by decide) kq) ?_
          refine own_st (T' := T) (F' := (mkF m 26 #[.val (.ref a), .val (.int ch), .val (.int fr), .val (.int to), .val (.int acc), .val (.int (i + (1 : Int32)))] [])) (fun _ kq => XS.iinc X.here hx rfl (hb hby d4_23) rfl (l' := #[.val (.ref a), .val (.int ch), .val (.int fr), .val (.int to), .val (.int acc), .val (.int (i + (1 : Int32)))]) rfl kq) ?_
          refine own_st (T' := T) (F' := (mkF m 6 #[.val (.ref a), .val (.int ch), .val (.int fr), .val (.int to), .val (.int acc), .val (.int (i + (1 : Int32)))] [])) (fun _ kq => XS.goto X.here hx rfl (pc0 := 26) (pc' := 6) rfl (hb hby d4_26) (by decide) (by decide) kq) ?_
          exact ih _ _ (own_nn hi hc9_10) (own_left hk hc9_10)
      ·
        rw [if_neg hc9_10]
        refine own_st (T' := T) (F' := (mkF m 29 #[.val (.ref a), .val (.int ch), .val (.int fr), .val (.int to), .val (.int acc), .val (.int i)] [])) (fun _ kq => XS.icmpYes X.here hx rfl (pc0 := 9) (pc' := 29) rfl (hb hby d4_9) rfl (flt hc9_10).2.1 (by decide) (by decide) kq) ?_
        refine own_st (T' := T) (F' := (mkF m 31 #[.val (.ref a), .val (.int ch), .val (.int fr), .val (.int to), .val (.int acc), .val (.int i)] [(.int acc)])) (fun _ kq => XS.iload X.here hx rfl (hb hby d4_29) rfl kq) ?_
        exact own_retI X hx hlk hret (hb hby d4_31) (by decide) (by decide) (own_PQi rfl N eT)
  refine own_st (T' := T) (F' := (mkF m 1 #[.val (.ref a), .val (.int ch), .val (.int fr), .val (.int to), .unset, .unset] [(.int (0 : Int32))])) (fun _ kq => XS.iconst X.here hx rfl (hb hby d4_0) kq) ?_
  refine own_st (T' := T) (F' := (mkF m 3 #[.val (.ref a), .val (.int ch), .val (.int fr), .val (.int to), .val (.int (0 : Int32)), .unset] [])) (fun _ kq => XS.istore X.here hx rfl (hb hby d4_1) rfl (l' := #[.val (.ref a), .val (.int ch), .val (.int fr), .val (.int to), .val (.int (0 : Int32)), .unset]) rfl kq) ?_
  refine own_st (T' := T) (F' := (mkF m 4 #[.val (.ref a), .val (.int ch), .val (.int fr), .val (.int to), .val (.int (0 : Int32)), .unset] [(.int fr)])) (fun _ kq => XS.iloadN X.here hx rfl (hb hby d4_3) rfl kq) ?_
  refine own_st (T' := T) (F' := (mkF m 6 #[.val (.ref a), .val (.int ch), .val (.int fr), .val (.int to), .val (.int (0 : Int32)), .val (.int fr)] [])) (fun _ kq => XS.istore X.here hx rfl (hb hby d4_4) rfl (l' := #[.val (.ref a), .val (.int ch), .val (.int fr), .val (.int to), .val (.int (0 : Int32)), .val (.int fr)]) rfl kq) ?_
  exact loop 5 fr 0 hf hk
theorem own_gap {fr to : Int32} (hf : ¬ fr < 0) (ht : to.toInt ≤ 5) : to.toInt - fr.toInt ≤ ((5 : Nat) : Int) := by
  have e0 : (0 : Int32).toInt = 0 := rfl
  rw [Int32.lt_iff_toInt_lt] at hf; omega
theorem own_six {y : Int32} (h : ¬ y < 0 ∧ y.toInt ≤ 5) : y = 0 ∨ y = 1 ∨ y = 2 ∨ y = 3 ∨ y = 4 ∨ y = 5 := by
  obtain ⟨h1, h2⟩ := h
  rw [Int32.lt_iff_toInt_lt] at h1
  simp only [← Int32.toInt_inj]
  have e0 : (0 : Int32).toInt = 0 := rfl
  have e1 : (1 : Int32).toInt = 1 := rfl
  have e2 : (2 : Int32).toInt = 2 := rfl
  have e3 : (3 : Int32).toInt = 3 := rfl
  have e4 : (4 : Int32).toInt = 4 := rfl
  have e5 : (5 : Int32).toInt = 5 := rfl
  omega

theorem own_rem6 (y : Int32) : ¬ ((y &&& (2147483647 : Int32)) % (6 : Int32)) < 0 ∧ ((y &&& (2147483647 : Int32)) % (6 : Int32)).toInt ≤ 5 := by
  have h := c_mask y 2147483647 31 (by decide) (by decide)
  have h2 := (c_irem (y &&& 2147483647) 6 6 rfl).1 (by rw [h]; omega)
  have e0 : (0 : Int32).toInt = 0 := rfl
  rw [Int32.lt_iff_toInt_lt]; omega
theorem own_b8 (y : Int32) : y.toInt8.toInt32.toInt8.toInt32 = y.toInt8.toInt32 := by
  have h1 := c_i2b y
  have h2 := c_i2b (y.toInt8.toInt32)
  rw [← Int32.toInt_inj]; omega
def own_h (ch fr to k a : Int32) : Int32 := if k < fr then 0 else (if k < to then (if a = ch then 1 else 0) else 0)
theorem own_ch (y : Int32) : ((y &&& (127 : Int32)).toUInt32.toUInt16.toUInt32.toInt32).toInt8.toInt32 = ((y &&& (127 : Int32)).toUInt32.toUInt16.toUInt32.toInt32) := by
  have h := c_mask y 127 7 (by decide) (by decide)
  generalize (y &&& (127 : Int32)) = z at h
  have h1 := c_i2c z
  generalize z.toUInt32.toUInt16.toUInt32.toInt32 = w at h1
  have h2 := c_i2b w
  rw [← Int32.toInt_inj]; omega
theorem own_f3 {q : Int64} {k mk ch fr to : Int32} (h : ch.toInt8.toInt32 = ch) : f3 q k mk ch fr to = own_h ch fr to k ((f1 q k mk ch).toInt8.toInt32) := by
  unfold f3 f1 f2 own_h
  simp only [own_b8, h]
  repeat' split
  all_goals simp_all
theorem own_law (x0 x1 x2 x3 x4 ch fr to : Int32) (hf : ¬ fr < 0 ∧ fr.toInt ≤ 5) (ht : ¬ to < 0 ∧ to.toInt ≤ 5) :
    own_ct [x0, x1, x2, x3, x4] ch to 5 fr 0 = own_h ch fr to 0 x0 + own_h ch fr to 1 x1 + own_h ch fr to 2 x2 + own_h ch fr to 3 x3 + own_h ch fr to 4 x4 := by
  by_cases e0 : x0 = ch <;> by_cases e1 : x1 = ch <;> by_cases e2 : x2 = ch <;> by_cases e3 : x3 = ch <;> by_cases e4 : x4 = ch <;>
    rcases own_six hf with rfl | rfl | rfl | rfl | rfl | rfl <;> rcases own_six ht with rfl | rfl | rfl | rfl | rfl | rfl <;> simp [own_ct, own_h, e0, e1, e2, e3, e4] <;> decide
theorem ef0 (m : MethodId) (x0 : Int64) (x1 : Int32) (x2 : Int32) (x3 : Int32) (x4 : Int32) : entryFrame m #[(.long x0), (.int x1), (.int x2), (.int x3), (.int x4)] maxLocals = mkF m 0 #[.val (.long x0), .second, .val (.int x1), .val (.int x2), .val (.int x3), .val (.int x4), .unset, .unset, .unset, .unset, .unset] [] := by first | (simp [entryFrame, mkF, argsToLocals, Value.category, maxLocals]; done) | rfl
theorem pd1 : parseMethodDescriptor "(JIIC)B" = some ⟨[.long, .int, .int, .char], some .byte⟩ := by decide +kernel
theorem pd2 : parseMethodDescriptor "(JIICII)I" = some ⟨[.long, .int, .int, .char, .int, .int], some .int⟩ := by decide +kernel
theorem pd3 : parseMethodDescriptor "([BCII)I" = some ⟨[(.array .byte), .char, .int, .int], some .int⟩ := by decide +kernel
set_option maxRecDepth 65536 in
set_option maxHeartbeats 80000000 in
theorem rm0 (l : Launch) (Z : State) (a0 : Array Value) (hw : ∀ d ∈ tables_1, d.before a0 Z = true) (ws : List Jvm.Cond) (q : Int64) (mk : Int32) (ch : Int32) (fr : Int32) (to : Int32) (h0 : Heap) (n0 : Nat) (Z0 : n0 ≤ h0.size) :
    own_Met l Z x code maxLocals ret ws room_1 #[(.long q), (.int mk), (.int ch), (.int fr), (.int to)] h0 (fun v h L => v = some (.int 1) ∧ Fr n0 L) := by
  refine own_body (plainFor_of_name pn0) ?_
  intro p e s m below meth c T0 X0 hx hby hml hret hlk hZ hown hnm e0
  replace hml : c.maxLocals = 11 := hml
  have N0 := Fr.nil n0
  refine own_entry (ef0 m q mk ch fr to) ?_
  refine own_st (T' := T0) (F' := (mkF m 1 #[.val (.long q), .second, .val (.int mk), .val (.int ch), .val (.int fr), .val (.int to), .unset, .unset, .unset, .unset, .unset] [(.int ch)])) (fun _ kq => XS.iloadN X0.here hx rfl (hb hby at_0) rfl kq) ?_
  refine own_st (T' := T0) (F' := (mkF m 3 #[.val (.long q), .second, .val (.int mk), .val (.int ch), .val (.int fr), .val (.int to), .unset, .unset, .unset, .unset, .unset] [(.int (127 : Int32)), (.int ch)])) (fun _ kq => XS.bipush X0.here hx rfl (hb hby at_1) kq) ?_
  refine own_st (T' := T0) (F' := (mkF m 4 #[.val (.long q), .second, .val (.int mk), .val (.int ch), .val (.int fr), .val (.int to), .unset, .unset, .unset, .unset, .unset] [(.int (ch &&& (127 : Int32)))])) (fun _ kq => XS.iand X0.here hx rfl (hb hby at_3) rfl kq) ?_
  refine own_st (T' := T0) (F' := (mkF m 5 #[.val (.long q), .second, .val (.int mk), .val (.int ch), .val (.int fr), .val (.int to), .unset, .unset, .unset, .unset, .unset] [(.int ((ch &&& (127 : Int32)).toUInt32.toUInt16.toUInt32.toInt32))])) (fun _ kq => XS.i2c X0.here hx rfl (hb hby at_4) rfl kq) ?_
  generalize hv12 : ((ch &&& (127 : Int32)).toUInt32.toUInt16.toUInt32.toInt32) = v12
  refine own_st (T' := T0) (F' := (mkF m 7 #[.val (.long q), .second, .val (.int mk), .val (.int ch), .val (.int fr), .val (.int to), .val (.int v12), .unset, .unset, .unset, .unset] [])) (fun _ kq => XS.istore X0.here hx rfl (hb hby at_5) rfl (l' := #[.val (.long q), .second, .val (.int mk), .val (.int ch), .val (.int fr), .val (.int to), .val (.int v12), .unset, .unset, .unset, .unset]) rfl kq) ?_
  refine own_st (T' := T0) (F' := (mkF m 8 #[.val (.long q), .second, .val (.int mk), .val (.int ch), .val (.int fr), .val (.int to), .val (.int v12), .unset, .unset, .unset, .unset] [(.int (5 : Int32))])) (fun _ kq => XS.iconst X0.here hx rfl (hb hby at_7) kq) ?_
  obtain ⟨T13, h13, b13, X13, e13, E13, g13, gb13, Z13, V13, st13⟩ := own_newI X0 hx hZ (aty := .byte) (hw _ (List.mem_of_getElem? (i := 0) rfl)) e0 Z0 (g := (mkF m 8 #[.val (.long q), .second, .val (.int mk), .val (.int ch), .val (.int fr), .val (.int to), .val (.int v12), .unset, .unset, .unset, .unset] [(.int (5 : Int32))])) rfl rfl (hb hby at_8) rfl (by decide) 5 5 rfl (by decide) (by decide) (by decide) (by decide)
  refine own_st (T' := T13) (F' := (mkF m 10 #[.val (.long q), .second, .val (.int mk), .val (.int ch), .val (.int fr), .val (.int to), .val (.int v12), .unset, .unset, .unset, .unset] [(.ref b13)])) (st13) ?_
  refine own_st (T' := T13) (F' := (mkF m 12 #[.val (.long q), .second, .val (.int mk), .val (.int ch), .val (.int fr), .val (.int to), .val (.int v12), .val (.ref b13), .unset, .unset, .unset] [])) (fun _ kq => XS.astore X13.here hx rfl (hb hby at_10) rfl rfl (l' := #[.val (.long q), .second, .val (.int mk), .val (.int ch), .val (.int fr), .val (.int to), .val (.int v12), .val (.ref b13), .unset, .unset, .unset]) rfl kq) ?_
  refine own_st (T' := T13) (F' := (mkF m 14 #[.val (.long q), .second, .val (.int mk), .val (.int ch), .val (.int fr), .val (.int to), .val (.int v12), .val (.ref b13), .unset, .unset, .unset] [(.ref b13)])) (fun _ kq => XS.aload X13.here hx rfl (hb hby at_12) rfl rfl kq) ?_
  refine own_st (T' := T13) (F' := (mkF m 15 #[.val (.long q), .second, .val (.int mk), .val (.int ch), .val (.int fr), .val (.int to), .val (.int v12), .val (.ref b13), .unset, .unset, .unset] [(.int (0 : Int32)), (.ref b13)])) (fun _ kq => XS.iconst X13.here hx rfl (hb hby at_14) kq) ?_
  refine own_st (T' := T13) (F' := (mkF m 16 #[.val (.long q), .second, .val (.int mk), .val (.int ch), .val (.int fr), .val (.int to), .val (.int v12), .val (.ref b13), .unset, .unset, .unset] [(.long q), (.int (0 : Int32)), (.ref b13)])) (fun _ kq => XS.lloadN X13.here hx rfl (hb hby at_15) rfl kq) ?_
  refine own_st (T' := T13) (F' := (mkF m 17 #[.val (.long q), .second, .val (.int mk), .val (.int ch), .val (.int fr), .val (.int to), .val (.int v12), .val (.ref b13), .unset, .unset, .unset] [(.int (0 : Int32)), (.long q), (.int (0 : Int32)), (.ref b13)])) (fun _ kq => XS.iconst X13.here hx rfl (hb hby at_16) kq) ?_
  refine own_st (T' := T13) (F' := (mkF m 18 #[.val (.long q), .second, .val (.int mk), .val (.int ch), .val (.int fr), .val (.int to), .val (.int v12), .val (.ref b13), .unset, .unset, .unset] [(.int mk), (.int (0 : Int32)), (.long q), (.int (0 : Int32)), (.ref b13)])) (fun _ kq => XS.iloadN X13.here hx rfl (hb hby at_17) rfl kq) ?_
  refine own_st (T' := T13) (F' := (mkF m 20 #[.val (.long q), .second, .val (.int mk), .val (.int ch), .val (.int fr), .val (.int to), .val (.int v12), .val (.ref b13), .unset, .unset, .unset] [(.int v12), (.int mk), (.int (0 : Int32)), (.long q), (.int (0 : Int32)), (.ref b13)])) (fun _ kq => XS.iload X13.here hx rfl (hb hby at_18) rfl kq) ?_
  obtain ⟨T15, locs15, X15, e15, N15, st15⟩ := own_callP X13 hx hZ 2 hown (hw _ (List.mem_of_getElem? (i := 1) rfl)) (hw _ (List.mem_of_getElem? (i := 2) rfl)) (hw _ (List.mem_of_getElem? (i := 3) rfl)) (hw _ (List.mem_of_getElem? (i := 4) rfl)) (by decide) (rm1 l Z a0 hw [] q (0 : Int32) mk v12 h13 n0) (by decide) (by decide) rfl rfl e13 N0 (by decide) (by decide) (g := (mkF m 20 #[.val (.long q), .second, .val (.int mk), .val (.int ch), .val (.int fr), .val (.int to), .val (.int v12), .val (.ref b13), .unset, .unset, .unset] [(.int v12), (.int mk), (.int (0 : Int32)), (.long q), (.int (0 : Int32)), (.ref b13)])) rfl (by rw [hml]; rfl) (argsL := [(.long q), (.int (0 : Int32)), (.int mk), (.int v12)]) (rest := [(.int (0 : Int32)), (.ref b13)]) (lenOf pd1 rfl) rfl rfl (by show 2 * 0 + _ ≤ _; exact Nat.le_of_eq rfl) (hb hby at_20)
  refine own_st (T' := T15) (F' := (mkF m 23 #[.val (.long q), .second, .val (.int mk), .val (.int ch), .val (.int fr), .val (.int to), .val (.int v12), .val (.ref b13), .unset, .unset, .unset] [(.int (f1 q (0 : Int32) mk v12)), (.int (0 : Int32)), (.ref b13)])) (st15) ?_
  generalize hv16 : (f1 q (0 : Int32) mk v12) = v16
  obtain ⟨T17, h17, locs17, X17, e17, N17, W17, V17, st17⟩ := own_stB X15 hx hZ e15 N15 (ys := [(v16.toInt8.toInt32), (0 : Int32), (0 : Int32), (0 : Int32), (0 : Int32)]) V13 gb13 (g := (mkF m 23 #[.val (.long q), .second, .val (.int mk), .val (.int ch), .val (.int fr), .val (.int to), .val (.int v12), .val (.ref b13), .unset, .unset, .unset] [(.int v16), (.int (0 : Int32)), (.ref b13)])) rfl rfl (hb hby at_23) (by decide) (Nat.le_of_ble_eq_true rfl) rfl
  have Z17 : n0 ≤ h17.size := by rw [W17.size]; exact Z13
  refine own_st (T' := T17) (F' := (mkF m 24 #[.val (.long q), .second, .val (.int mk), .val (.int ch), .val (.int fr), .val (.int to), .val (.int v12), .val (.ref b13), .unset, .unset, .unset] [])) (st17) ?_
  refine own_st (T' := T17) (F' := (mkF m 26 #[.val (.long q), .second, .val (.int mk), .val (.int ch), .val (.int fr), .val (.int to), .val (.int v12), .val (.ref b13), .unset, .unset, .unset] [(.ref b13)])) (fun _ kq => XS.aload X17.here hx rfl (hb hby at_24) rfl rfl kq) ?_
  refine own_st (T' := T17) (F' := (mkF m 27 #[.val (.long q), .second, .val (.int mk), .val (.int ch), .val (.int fr), .val (.int to), .val (.int v12), .val (.ref b13), .unset, .unset, .unset] [(.int (1 : Int32)), (.ref b13)])) (fun _ kq => XS.iconst X17.here hx rfl (hb hby at_26) kq) ?_
  refine own_st (T' := T17) (F' := (mkF m 28 #[.val (.long q), .second, .val (.int mk), .val (.int ch), .val (.int fr), .val (.int to), .val (.int v12), .val (.ref b13), .unset, .unset, .unset] [(.long q), (.int (1 : Int32)), (.ref b13)])) (fun _ kq => XS.lloadN X17.here hx rfl (hb hby at_27) rfl kq) ?_
  refine own_st (T' := T17) (F' := (mkF m 29 #[.val (.long q), .second, .val (.int mk), .val (.int ch), .val (.int fr), .val (.int to), .val (.int v12), .val (.ref b13), .unset, .unset, .unset] [(.int (1 : Int32)), (.long q), (.int (1 : Int32)), (.ref b13)])) (fun _ kq => XS.iconst X17.here hx rfl (hb hby at_28) kq) ?_
  refine own_st (T' := T17) (F' := (mkF m 30 #[.val (.long q), .second, .val (.int mk), .val (.int ch), .val (.int fr), .val (.int to), .val (.int v12), .val (.ref b13), .unset, .unset, .unset] [(.int mk), (.int (1 : Int32)), (.long q), (.int (1 : Int32)), (.ref b13)])) (fun _ kq => XS.iloadN X17.here hx rfl (hb hby at_29) rfl kq) ?_
  refine own_st (T' := T17) (F' := (mkF m 32 #[.val (.long q), .second, .val (.int mk), .val (.int ch), .val (.int fr), .val (.int to), .val (.int v12), .val (.ref b13), .unset, .unset, .unset] [(.int v12), (.int mk), (.int (1 : Int32)), (.long q), (.int (1 : Int32)), (.ref b13)])) (fun _ kq => XS.iload X17.here hx rfl (hb hby at_30) rfl kq) ?_
  obtain ⟨T19, locs19, X19, e19, N19, st19⟩ := own_callP X17 hx hZ 2 hown (hw _ (List.mem_of_getElem? (i := 1) rfl)) (hw _ (List.mem_of_getElem? (i := 2) rfl)) (hw _ (List.mem_of_getElem? (i := 3) rfl)) (hw _ (List.mem_of_getElem? (i := 4) rfl)) (by decide) (rm1 l Z a0 hw [] q (1 : Int32) mk v12 h17 n0) (by decide) (by decide) rfl rfl e17 N17 (by decide) (by decide) (g := (mkF m 32 #[.val (.long q), .second, .val (.int mk), .val (.int ch), .val (.int fr), .val (.int to), .val (.int v12), .val (.ref b13), .unset, .unset, .unset] [(.int v12), (.int mk), (.int (1 : Int32)), (.long q), (.int (1 : Int32)), (.ref b13)])) rfl (by rw [hml]; rfl) (argsL := [(.long q), (.int (1 : Int32)), (.int mk), (.int v12)]) (rest := [(.int (1 : Int32)), (.ref b13)]) (lenOf pd1 rfl) rfl rfl (by show 2 * 0 + _ ≤ _; exact Nat.le_of_eq rfl) (hb hby at_32)
  refine own_st (T' := T19) (F' := (mkF m 35 #[.val (.long q), .second, .val (.int mk), .val (.int ch), .val (.int fr), .val (.int to), .val (.int v12), .val (.ref b13), .unset, .unset, .unset] [(.int (f1 q (1 : Int32) mk v12)), (.int (1 : Int32)), (.ref b13)])) (st19) ?_
  generalize hv20 : (f1 q (1 : Int32) mk v12) = v20
  obtain ⟨T21, h21, locs21, X21, e21, N21, W21, V21, st21⟩ := own_stB X19 hx hZ e19 N19 (ys := [(v16.toInt8.toInt32), (v20.toInt8.toInt32), (0 : Int32), (0 : Int32), (0 : Int32)]) V17 gb13 (g := (mkF m 35 #[.val (.long q), .second, .val (.int mk), .val (.int ch), .val (.int fr), .val (.int to), .val (.int v12), .val (.ref b13), .unset, .unset, .unset] [(.int v20), (.int (1 : Int32)), (.ref b13)])) rfl rfl (hb hby at_35) (by decide) (Nat.le_of_ble_eq_true rfl) rfl
  have Z21 : n0 ≤ h21.size := by rw [W21.size]; exact Z17
  refine own_st (T' := T21) (F' := (mkF m 36 #[.val (.long q), .second, .val (.int mk), .val (.int ch), .val (.int fr), .val (.int to), .val (.int v12), .val (.ref b13), .unset, .unset, .unset] [])) (st21) ?_
  refine own_st (T' := T21) (F' := (mkF m 38 #[.val (.long q), .second, .val (.int mk), .val (.int ch), .val (.int fr), .val (.int to), .val (.int v12), .val (.ref b13), .unset, .unset, .unset] [(.ref b13)])) (fun _ kq => XS.aload X21.here hx rfl (hb hby at_36) rfl rfl kq) ?_
  refine own_st (T' := T21) (F' := (mkF m 39 #[.val (.long q), .second, .val (.int mk), .val (.int ch), .val (.int fr), .val (.int to), .val (.int v12), .val (.ref b13), .unset, .unset, .unset] [(.int (2 : Int32)), (.ref b13)])) (fun _ kq => XS.iconst X21.here hx rfl (hb hby at_38) kq) ?_
  refine own_st (T' := T21) (F' := (mkF m 40 #[.val (.long q), .second, .val (.int mk), .val (.int ch), .val (.int fr), .val (.int to), .val (.int v12), .val (.ref b13), .unset, .unset, .unset] [(.long q), (.int (2 : Int32)), (.ref b13)])) (fun _ kq => XS.lloadN X21.here hx rfl (hb hby at_39) rfl kq) ?_
  refine own_st (T' := T21) (F' := (mkF m 41 #[.val (.long q), .second, .val (.int mk), .val (.int ch), .val (.int fr), .val (.int to), .val (.int v12), .val (.ref b13), .unset, .unset, .unset] [(.int (2 : Int32)), (.long q), (.int (2 : Int32)), (.ref b13)])) (fun _ kq => XS.iconst X21.here hx rfl (hb hby at_40) kq) ?_
  refine own_st (T' := T21) (F' := (mkF m 42 #[.val (.long q), .second, .val (.int mk), .val (.int ch), .val (.int fr), .val (.int to), .val (.int v12), .val (.ref b13), .unset, .unset, .unset] [(.int mk), (.int (2 : Int32)), (.long q), (.int (2 : Int32)), (.ref b13)])) (fun _ kq => XS.iloadN X21.here hx rfl (hb hby at_41) rfl kq) ?_
  refine own_st (T' := T21) (F' := (mkF m 44 #[.val (.long q), .second, .val (.int mk), .val (.int ch), .val (.int fr), .val (.int to), .val (.int v12), .val (.ref b13), .unset, .unset, .unset] [(.int v12), (.int mk), (.int (2 : Int32)), (.long q), (.int (2 : Int32)), (.ref b13)])) (fun _ kq => XS.iload X21.here hx rfl (hb hby at_42) rfl kq) ?_
  obtain ⟨T23, locs23, X23, e23, N23, st23⟩ := own_callP X21 hx hZ 2 hown (hw _ (List.mem_of_getElem? (i := 1) rfl)) (hw _ (List.mem_of_getElem? (i := 2) rfl)) (hw _ (List.mem_of_getElem? (i := 3) rfl)) (hw _ (List.mem_of_getElem? (i := 4) rfl)) (by decide) (rm1 l Z a0 hw [] q (2 : Int32) mk v12 h21 n0) (by decide) (by decide) rfl rfl e21 N21 (by decide) (by decide) (g := (mkF m 44 #[.val (.long q), .second, .val (.int mk), .val (.int ch), .val (.int fr), .val (.int to), .val (.int v12), .val (.ref b13), .unset, .unset, .unset] [(.int v12), (.int mk), (.int (2 : Int32)), (.long q), (.int (2 : Int32)), (.ref b13)])) rfl (by rw [hml]; rfl) (argsL := [(.long q), (.int (2 : Int32)), (.int mk), (.int v12)]) (rest := [(.int (2 : Int32)), (.ref b13)]) (lenOf pd1 rfl) rfl rfl (by show 2 * 0 + _ ≤ _; exact Nat.le_of_eq rfl) (hb hby at_44)
  refine own_st (T' := T23) (F' := (mkF m 47 #[.val (.long q), .second, .val (.int mk), .val (.int ch), .val (.int fr), .val (.int to), .val (.int v12), .val (.ref b13), .unset, .unset, .unset] [(.int (f1 q (2 : Int32) mk v12)), (.int (2 : Int32)), (.ref b13)])) (st23) ?_
  generalize hv24 : (f1 q (2 : Int32) mk v12) = v24
  obtain ⟨T25, h25, locs25, X25, e25, N25, W25, V25, st25⟩ := own_stB X23 hx hZ e23 N23 (ys := [(v16.toInt8.toInt32), (v20.toInt8.toInt32), (v24.toInt8.toInt32), (0 : Int32), (0 : Int32)]) V21 gb13 (g := (mkF m 47 #[.val (.long q), .second, .val (.int mk), .val (.int ch), .val (.int fr), .val (.int to), .val (.int v12), .val (.ref b13), .unset, .unset, .unset] [(.int v24), (.int (2 : Int32)), (.ref b13)])) rfl rfl (hb hby at_47) (by decide) (Nat.le_of_ble_eq_true rfl) rfl
  have Z25 : n0 ≤ h25.size := by rw [W25.size]; exact Z21
  refine own_st (T' := T25) (F' := (mkF m 48 #[.val (.long q), .second, .val (.int mk), .val (.int ch), .val (.int fr), .val (.int to), .val (.int v12), .val (.ref b13), .unset, .unset, .unset] [])) (st25) ?_
  refine own_st (T' := T25) (F' := (mkF m 50 #[.val (.long q), .second, .val (.int mk), .val (.int ch), .val (.int fr), .val (.int to), .val (.int v12), .val (.ref b13), .unset, .unset, .unset] [(.ref b13)])) (fun _ kq => XS.aload X25.here hx rfl (hb hby at_48) rfl rfl kq) ?_
  refine own_st (T' := T25) (F' := (mkF m 51 #[.val (.long q), .second, .val (.int mk), .val (.int ch), .val (.int fr), .val (.int to), .val (.int v12), .val (.ref b13), .unset, .unset, .unset] [(.int (3 : Int32)), (.ref b13)])) (fun _ kq => XS.iconst X25.here hx rfl (hb hby at_50) kq) ?_
  refine own_st (T' := T25) (F' := (mkF m 52 #[.val (.long q), .second, .val (.int mk), .val (.int ch), .val (.int fr), .val (.int to), .val (.int v12), .val (.ref b13), .unset, .unset, .unset] [(.long q), (.int (3 : Int32)), (.ref b13)])) (fun _ kq => XS.lloadN X25.here hx rfl (hb hby at_51) rfl kq) ?_
  refine own_st (T' := T25) (F' := (mkF m 53 #[.val (.long q), .second, .val (.int mk), .val (.int ch), .val (.int fr), .val (.int to), .val (.int v12), .val (.ref b13), .unset, .unset, .unset] [(.int (3 : Int32)), (.long q), (.int (3 : Int32)), (.ref b13)])) (fun _ kq => XS.iconst X25.here hx rfl (hb hby at_52) kq) ?_
  refine own_st (T' := T25) (F' := (mkF m 54 #[.val (.long q), .second, .val (.int mk), .val (.int ch), .val (.int fr), .val (.int to), .val (.int v12), .val (.ref b13), .unset, .unset, .unset] [(.int mk), (.int (3 : Int32)), (.long q), (.int (3 : Int32)), (.ref b13)])) (fun _ kq => XS.iloadN X25.here hx rfl (hb hby at_53) rfl kq) ?_
  refine own_st (T' := T25) (F' := (mkF m 56 #[.val (.long q), .second, .val (.int mk), .val (.int ch), .val (.int fr), .val (.int to), .val (.int v12), .val (.ref b13), .unset, .unset, .unset] [(.int v12), (.int mk), (.int (3 : Int32)), (.long q), (.int (3 : Int32)), (.ref b13)])) (fun _ kq => XS.iload X25.here hx rfl (hb hby at_54) rfl kq) ?_
  obtain ⟨T27, locs27, X27, e27, N27, st27⟩ := own_callP X25 hx hZ 2 hown (hw _ (List.mem_of_getElem? (i := 1) rfl)) (hw _ (List.mem_of_getElem? (i := 2) rfl)) (hw _ (List.mem_of_getElem? (i := 3) rfl)) (hw _ (List.mem_of_getElem? (i := 4) rfl)) (by decide) (rm1 l Z a0 hw [] q (3 : Int32) mk v12 h25 n0) (by decide) (by decide) rfl rfl e25 N25 (by decide) (by decide) (g := (mkF m 56 #[.val (.long q), .second, .val (.int mk), .val (.int ch), .val (.int fr), .val (.int to), .val (.int v12), .val (.ref b13), .unset, .unset, .unset] [(.int v12), (.int mk), (.int (3 : Int32)), (.long q), (.int (3 : Int32)), (.ref b13)])) rfl (by rw [hml]; rfl) (argsL := [(.long q), (.int (3 : Int32)), (.int mk), (.int v12)]) (rest := [(.int (3 : Int32)), (.ref b13)]) (lenOf pd1 rfl) rfl rfl (by show 2 * 0 + _ ≤ _; exact Nat.le_of_eq rfl) (hb hby at_56)
  refine own_st (T' := T27) (F' := (mkF m 59 #[.val (.long q), .second, .val (.int mk), .val (.int ch), .val (.int fr), .val (.int to), .val (.int v12), .val (.ref b13), .unset, .unset, .unset] [(.int (f1 q (3 : Int32) mk v12)), (.int (3 : Int32)), (.ref b13)])) (st27) ?_
  generalize hv28 : (f1 q (3 : Int32) mk v12) = v28
  obtain ⟨T29, h29, locs29, X29, e29, N29, W29, V29, st29⟩ := own_stB X27 hx hZ e27 N27 (ys := [(v16.toInt8.toInt32), (v20.toInt8.toInt32), (v24.toInt8.toInt32), (v28.toInt8.toInt32), (0 : Int32)]) V25 gb13 (g := (mkF m 59 #[.val (.long q), .second, .val (.int mk), .val (.int ch), .val (.int fr), .val (.int to), .val (.int v12), .val (.ref b13), .unset, .unset, .unset] [(.int v28), (.int (3 : Int32)), (.ref b13)])) rfl rfl (hb hby at_59) (by decide) (Nat.le_of_ble_eq_true rfl) rfl
  have Z29 : n0 ≤ h29.size := by rw [W29.size]; exact Z25
  refine own_st (T' := T29) (F' := (mkF m 60 #[.val (.long q), .second, .val (.int mk), .val (.int ch), .val (.int fr), .val (.int to), .val (.int v12), .val (.ref b13), .unset, .unset, .unset] [])) (st29) ?_
  refine own_st (T' := T29) (F' := (mkF m 62 #[.val (.long q), .second, .val (.int mk), .val (.int ch), .val (.int fr), .val (.int to), .val (.int v12), .val (.ref b13), .unset, .unset, .unset] [(.ref b13)])) (fun _ kq => XS.aload X29.here hx rfl (hb hby at_60) rfl rfl kq) ?_
  refine own_st (T' := T29) (F' := (mkF m 63 #[.val (.long q), .second, .val (.int mk), .val (.int ch), .val (.int fr), .val (.int to), .val (.int v12), .val (.ref b13), .unset, .unset, .unset] [(.int (4 : Int32)), (.ref b13)])) (fun _ kq => XS.iconst X29.here hx rfl (hb hby at_62) kq) ?_
  refine own_st (T' := T29) (F' := (mkF m 64 #[.val (.long q), .second, .val (.int mk), .val (.int ch), .val (.int fr), .val (.int to), .val (.int v12), .val (.ref b13), .unset, .unset, .unset] [(.long q), (.int (4 : Int32)), (.ref b13)])) (fun _ kq => XS.lloadN X29.here hx rfl (hb hby at_63) rfl kq) ?_
  refine own_st (T' := T29) (F' := (mkF m 65 #[.val (.long q), .second, .val (.int mk), .val (.int ch), .val (.int fr), .val (.int to), .val (.int v12), .val (.ref b13), .unset, .unset, .unset] [(.int (4 : Int32)), (.long q), (.int (4 : Int32)), (.ref b13)])) (fun _ kq => XS.iconst X29.here hx rfl (hb hby at_64) kq) ?_
  refine own_st (T' := T29) (F' := (mkF m 66 #[.val (.long q), .second, .val (.int mk), .val (.int ch), .val (.int fr), .val (.int to), .val (.int v12), .val (.ref b13), .unset, .unset, .unset] [(.int mk), (.int (4 : Int32)), (.long q), (.int (4 : Int32)), (.ref b13)])) (fun _ kq => XS.iloadN X29.here hx rfl (hb hby at_65) rfl kq) ?_
  refine own_st (T' := T29) (F' := (mkF m 68 #[.val (.long q), .second, .val (.int mk), .val (.int ch), .val (.int fr), .val (.int to), .val (.int v12), .val (.ref b13), .unset, .unset, .unset] [(.int v12), (.int mk), (.int (4 : Int32)), (.long q), (.int (4 : Int32)), (.ref b13)])) (fun _ kq => XS.iload X29.here hx rfl (hb hby at_66) rfl kq) ?_
  obtain ⟨T31, locs31, X31, e31, N31, st31⟩ := own_callP X29 hx hZ 2 hown (hw _ (List.mem_of_getElem? (i := 1) rfl)) (hw _ (List.mem_of_getElem? (i := 2) rfl)) (hw _ (List.mem_of_getElem? (i := 3) rfl)) (hw _ (List.mem_of_getElem? (i := 4) rfl)) (by decide) (rm1 l Z a0 hw [] q (4 : Int32) mk v12 h29 n0) (by decide) (by decide) rfl rfl e29 N29 (by decide) (by decide) (g := (mkF m 68 #[.val (.long q), .second, .val (.int mk), .val (.int ch), .val (.int fr), .val (.int to), .val (.int v12), .val (.ref b13), .unset, .unset, .unset] [(.int v12), (.int mk), (.int (4 : Int32)), (.long q), (.int (4 : Int32)), (.ref b13)])) rfl (by rw [hml]; rfl) (argsL := [(.long q), (.int (4 : Int32)), (.int mk), (.int v12)]) (rest := [(.int (4 : Int32)), (.ref b13)]) (lenOf pd1 rfl) rfl rfl (by show 2 * 0 + _ ≤ _; exact Nat.le_of_eq rfl) (hb hby at_68)
  refine own_st (T' := T31) (F' := (mkF m 71 #[.val (.long q), .second, .val (.int mk), .val (.int ch), .val (.int fr), .val (.int to), .val (.int v12), .val (.ref b13), .unset, .unset, .unset] [(.int (f1 q (4 : Int32) mk v12)), (.int (4 : Int32)), (.ref b13)])) (st31) ?_
  generalize hv32 : (f1 q (4 : Int32) mk v12) = v32
  obtain ⟨T33, h33, locs33, X33, e33, N33, W33, V33, st33⟩ := own_stB X31 hx hZ e31 N31 (ys := [(v16.toInt8.toInt32), (v20.toInt8.toInt32), (v24.toInt8.toInt32), (v28.toInt8.toInt32), (v32.toInt8.toInt32)]) V29 gb13 (g := (mkF m 71 #[.val (.long q), .second, .val (.int mk), .val (.int ch), .val (.int fr), .val (.int to), .val (.int v12), .val (.ref b13), .unset, .unset, .unset] [(.int v32), (.int (4 : Int32)), (.ref b13)])) rfl rfl (hb hby at_71) (by decide) (Nat.le_of_ble_eq_true rfl) rfl
  have Z33 : n0 ≤ h33.size := by rw [W33.size]; exact Z29
  refine own_st (T' := T33) (F' := (mkF m 72 #[.val (.long q), .second, .val (.int mk), .val (.int ch), .val (.int fr), .val (.int to), .val (.int v12), .val (.ref b13), .unset, .unset, .unset] [])) (st33) ?_
  refine own_st (T' := T33) (F' := (mkF m 74 #[.val (.long q), .second, .val (.int mk), .val (.int ch), .val (.int fr), .val (.int to), .val (.int v12), .val (.ref b13), .unset, .unset, .unset] [(.int fr)])) (fun _ kq => XS.iload X33.here hx rfl (hb hby at_72) rfl kq) ?_
  refine own_st (T' := T33) (F' := (mkF m 76 #[.val (.long q), .second, .val (.int mk), .val (.int ch), .val (.int fr), .val (.int to), .val (.int v12), .val (.ref b13), .unset, .unset, .unset] [(.int (2147483647 : Int32)), (.int fr)])) (fun _ kq => X33.ldcInt hx hown (mvT hZ (hw _ (List.mem_of_getElem? (i := 8) rfl))) (g := (mkF m 74 #[.val (.long q), .second, .val (.int mk), .val (.int ch), .val (.int fr), .val (.int to), .val (.int v12), .val (.ref b13), .unset, .unset, .unset] [(.int fr)])) rfl (hb hby at_74) _ kq) ?_
  refine own_st (T' := T33) (F' := (mkF m 77 #[.val (.long q), .second, .val (.int mk), .val (.int ch), .val (.int fr), .val (.int to), .val (.int v12), .val (.ref b13), .unset, .unset, .unset] [(.int (fr &&& (2147483647 : Int32)))])) (fun _ kq => XS.iand X33.here hx rfl (hb hby at_76) rfl kq) ?_
  refine own_st (T' := T33) (F' := (mkF m 79 #[.val (.long q), .second, .val (.int mk), .val (.int ch), .val (.int fr), .val (.int to), .val (.int v12), .val (.ref b13), .unset, .unset, .unset] [(.int (6 : Int32)), (.int (fr &&& (2147483647 : Int32)))])) (fun _ kq => XS.bipush X33.here hx rfl (hb hby at_77) kq) ?_
  refine own_st (T' := T33) (F' := (mkF m 80 #[.val (.long q), .second, .val (.int mk), .val (.int ch), .val (.int fr), .val (.int to), .val (.int v12), .val (.ref b13), .unset, .unset, .unset] [(.int ((fr &&& (2147483647 : Int32)) % (6 : Int32)))])) (fun _ kq => iremM X33 hx rfl (hb hby at_79) rfl (by decide) kq) ?_
  generalize hv35 : ((fr &&& (2147483647 : Int32)) % (6 : Int32)) = v35
  refine own_st (T' := T33) (F' := (mkF m 82 #[.val (.long q), .second, .val (.int mk), .val (.int ch), .val (.int fr), .val (.int to), .val (.int v12), .val (.ref b13), .val (.int v35), .unset, .unset] [])) (fun _ kq => XS.istore X33.here hx rfl (hb hby at_80) rfl (l' := #[.val (.long q), .second, .val (.int mk), .val (.int ch), .val (.int fr), .val (.int to), .val (.int v12), .val (.ref b13), .val (.int v35), .unset, .unset]) rfl kq) ?_
  refine own_st (T' := T33) (F' := (mkF m 84 #[.val (.long q), .second, .val (.int mk), .val (.int ch), .val (.int fr), .val (.int to), .val (.int v12), .val (.ref b13), .val (.int v35), .unset, .unset] [(.int to)])) (fun _ kq => XS.iload X33.here hx rfl (hb hby at_82) rfl kq) ?_
  refine own_st (T' := T33) (F' := (mkF m 86 #[.val (.long q), .second, .val (.int mk), .val (.int ch), .val (.int fr), .val (.int to), .val (.int v12), .val (.ref b13), .val (.int v35), .unset, .unset] [(.int (2147483647 : Int32)), (.int to)])) (fun _ kq => X33.ldcInt hx hown (mvT hZ (hw _ (List.mem_of_getElem? (i := 8) rfl))) (g := (mkF m 84 #[.val (.long q), .second, .val (.int mk), .val (.int ch), .val (.int fr), .val (.int to), .val (.int v12), .val (.ref b13), .val (.int v35), .unset, .unset] [(.int to)])) rfl (hb hby at_84) _ kq) ?_
  refine own_st (T' := T33) (F' := (mkF m 87 #[.val (.long q), .second, .val (.int mk), .val (.int ch), .val (.int fr), .val (.int to), .val (.int v12), .val (.ref b13), .val (.int v35), .unset, .unset] [(.int (to &&& (2147483647 : Int32)))])) (fun _ kq => XS.iand X33.here hx rfl (hb hby at_86) rfl kq) ?_
  refine own_st (T' := T33) (F' := (mkF m 89 #[.val (.long q), .second, .val (.int mk), .val (.int ch), .val (.int fr), .val (.int to), .val (.int v12), .val (.ref b13), .val (.int v35), .unset, .unset] [(.int (6 : Int32)), (.int (to &&& (2147483647 : Int32)))])) (fun _ kq => XS.bipush X33.here hx rfl (hb hby at_87) kq) ?_
  refine own_st (T' := T33) (F' := (mkF m 90 #[.val (.long q), .second, .val (.int mk), .val (.int ch), .val (.int fr), .val (.int to), .val (.int v12), .val (.ref b13), .val (.int v35), .unset, .unset] [(.int ((to &&& (2147483647 : Int32)) % (6 : Int32)))])) (fun _ kq => iremM X33 hx rfl (hb hby at_89) rfl (by decide) kq) ?_
  generalize hv36 : ((to &&& (2147483647 : Int32)) % (6 : Int32)) = v36
  refine own_st (T' := T33) (F' := (mkF m 92 #[.val (.long q), .second, .val (.int mk), .val (.int ch), .val (.int fr), .val (.int to), .val (.int v12), .val (.ref b13), .val (.int v35), .val (.int v36), .unset] [])) (fun _ kq => XS.istore X33.here hx rfl (hb hby at_90) rfl (l' := #[.val (.long q), .second, .val (.int mk), .val (.int ch), .val (.int fr), .val (.int to), .val (.int v12), .val (.ref b13), .val (.int v35), .val (.int v36), .unset]) rfl kq) ?_
  refine own_st (T' := T33) (F' := (mkF m 93 #[.val (.long q), .second, .val (.int mk), .val (.int ch), .val (.int fr), .val (.int to), .val (.int v12), .val (.ref b13), .val (.int v35), .val (.int v36), .unset] [(.long q)])) (fun _ kq => XS.lloadN X33.here hx rfl (hb hby at_92) rfl kq) ?_
  refine own_st (T' := T33) (F' := (mkF m 94 #[.val (.long q), .second, .val (.int mk), .val (.int ch), .val (.int fr), .val (.int to), .val (.int v12), .val (.ref b13), .val (.int v35), .val (.int v36), .unset] [(.int (0 : Int32)), (.long q)])) (fun _ kq => XS.iconst X33.here hx rfl (hb hby at_93) kq) ?_
  refine own_st (T' := T33) (F' := (mkF m 95 #[.val (.long q), .second, .val (.int mk), .val (.int ch), .val (.int fr), .val (.int to), .val (.int v12), .val (.ref b13), .val (.int v35), .val (.int v36), .unset] [(.int mk), (.int (0 : Int32)), (.long q)])) (fun _ kq => XS.iloadN X33.here hx rfl (hb hby at_94) rfl kq) ?_
  refine own_st (T' := T33) (F' := (mkF m 97 #[.val (.long q), .second, .val (.int mk), .val (.int ch), .val (.int fr), .val (.int to), .val (.int v12), .val (.ref b13), .val (.int v35), .val (.int v36), .unset] [(.int v12), (.int mk), (.int (0 : Int32)), (.long q)])) (fun _ kq => XS.iload X33.here hx rfl (hb hby at_95) rfl kq) ?_
  refine own_st (T' := T33) (F' := (mkF m 99 #[.val (.long q), .second, .val (.int mk), .val (.int ch), .val (.int fr), .val (.int to), .val (.int v12), .val (.ref b13), .val (.int v35), .val (.int v36), .unset] [(.int v35), (.int v12), (.int mk), (.int (0 : Int32)), (.long q)])) (fun _ kq => XS.iload X33.here hx rfl (hb hby at_97) rfl kq) ?_
  refine own_st (T' := T33) (F' := (mkF m 101 #[.val (.long q), .second, .val (.int mk), .val (.int ch), .val (.int fr), .val (.int to), .val (.int v12), .val (.ref b13), .val (.int v35), .val (.int v36), .unset] [(.int v36), (.int v35), (.int v12), (.int mk), (.int (0 : Int32)), (.long q)])) (fun _ kq => XS.iload X33.here hx rfl (hb hby at_99) rfl kq) ?_
  obtain ⟨T37, locs37, X37, e37, N37, st37⟩ := own_callP X33 hx hZ 0 hown (hw _ (List.mem_of_getElem? (i := 9) rfl)) (hw _ (List.mem_of_getElem? (i := 10) rfl)) (hw _ (List.mem_of_getElem? (i := 3) rfl)) (hw _ (List.mem_of_getElem? (i := 11) rfl)) (by decide) (rm3 l Z a0 hw [] q (0 : Int32) mk v12 v35 v36 h33 n0) (by decide) (by decide) rfl rfl e33 N33 (by decide) (by decide) (g := (mkF m 101 #[.val (.long q), .second, .val (.int mk), .val (.int ch), .val (.int fr), .val (.int to), .val (.int v12), .val (.ref b13), .val (.int v35), .val (.int v36), .unset] [(.int v36), (.int v35), (.int v12), (.int mk), (.int (0 : Int32)), (.long q)])) rfl (by rw [hml]; rfl) (argsL := [(.long q), (.int (0 : Int32)), (.int mk), (.int v12), (.int v35), (.int v36)]) (rest := []) (lenOf pd2 rfl) rfl rfl (by show 2 * 0 + _ ≤ _; exact Nat.le_of_eq rfl) (hb hby at_101)
  refine own_st (T' := T37) (F' := (mkF m 104 #[.val (.long q), .second, .val (.int mk), .val (.int ch), .val (.int fr), .val (.int to), .val (.int v12), .val (.ref b13), .val (.int v35), .val (.int v36), .unset] [(.int (f3 q (0 : Int32) mk v12 v35 v36))])) (st37) ?_
  generalize hv38 : (f3 q (0 : Int32) mk v12 v35 v36) = v38
  refine own_st (T' := T37) (F' := (mkF m 105 #[.val (.long q), .second, .val (.int mk), .val (.int ch), .val (.int fr), .val (.int to), .val (.int v12), .val (.ref b13), .val (.int v35), .val (.int v36), .unset] [(.long q), (.int v38)])) (fun _ kq => XS.lloadN X37.here hx rfl (hb hby at_104) rfl kq) ?_
  refine own_st (T' := T37) (F' := (mkF m 106 #[.val (.long q), .second, .val (.int mk), .val (.int ch), .val (.int fr), .val (.int to), .val (.int v12), .val (.ref b13), .val (.int v35), .val (.int v36), .unset] [(.int (1 : Int32)), (.long q), (.int v38)])) (fun _ kq => XS.iconst X37.here hx rfl (hb hby at_105) kq) ?_
  refine own_st (T' := T37) (F' := (mkF m 107 #[.val (.long q), .second, .val (.int mk), .val (.int ch), .val (.int fr), .val (.int to), .val (.int v12), .val (.ref b13), .val (.int v35), .val (.int v36), .unset] [(.int mk), (.int (1 : Int32)), (.long q), (.int v38)])) (fun _ kq => XS.iloadN X37.here hx rfl (hb hby at_106) rfl kq) ?_
  refine own_st (T' := T37) (F' := (mkF m 109 #[.val (.long q), .second, .val (.int mk), .val (.int ch), .val (.int fr), .val (.int to), .val (.int v12), .val (.ref b13), .val (.int v35), .val (.int v36), .unset] [(.int v12), (.int mk), (.int (1 : Int32)), (.long q), (.int v38)])) (fun _ kq => XS.iload X37.here hx rfl (hb hby at_107) rfl kq) ?_
  refine own_st (T' := T37) (F' := (mkF m 111 #[.val (.long q), .second, .val (.int mk), .val (.int ch), .val (.int fr), .val (.int to), .val (.int v12), .val (.ref b13), .val (.int v35), .val (.int v36), .unset] [(.int v35), (.int v12), (.int mk), (.int (1 : Int32)), (.long q), (.int v38)])) (fun _ kq => XS.iload X37.here hx rfl (hb hby at_109) rfl kq) ?_
  refine own_st (T' := T37) (F' := (mkF m 113 #[.val (.long q), .second, .val (.int mk), .val (.int ch), .val (.int fr), .val (.int to), .val (.int v12), .val (.ref b13), .val (.int v35), .val (.int v36), .unset] [(.int v36), (.int v35), (.int v12), (.int mk), (.int (1 : Int32)), (.long q), (.int v38)])) (fun _ kq => XS.iload X37.here hx rfl (hb hby at_111) rfl kq) ?_
  obtain ⟨T39, locs39, X39, e39, N39, st39⟩ := own_callP X37 hx hZ 1 hown (hw _ (List.mem_of_getElem? (i := 9) rfl)) (hw _ (List.mem_of_getElem? (i := 10) rfl)) (hw _ (List.mem_of_getElem? (i := 3) rfl)) (hw _ (List.mem_of_getElem? (i := 11) rfl)) (by decide) (rm3 l Z a0 hw [] q (1 : Int32) mk v12 v35 v36 h33 n0) (by decide) (by decide) rfl rfl e37 N37 (by decide) (by decide) (g := (mkF m 113 #[.val (.long q), .second, .val (.int mk), .val (.int ch), .val (.int fr), .val (.int to), .val (.int v12), .val (.ref b13), .val (.int v35), .val (.int v36), .unset] [(.int v36), (.int v35), (.int v12), (.int mk), (.int (1 : Int32)), (.long q), (.int v38)])) rfl (by rw [hml]; rfl) (argsL := [(.long q), (.int (1 : Int32)), (.int mk), (.int v12), (.int v35), (.int v36)]) (rest := [(.int v38)]) (lenOf pd2 rfl) rfl rfl (by show 2 * 0 + _ ≤ _; exact Nat.le_of_eq rfl) (hb hby at_113)
  refine own_st (T' := T39) (F' := (mkF m 116 #[.val (.long q), .second, .val (.int mk), .val (.int ch), .val (.int fr), .val (.int to), .val (.int v12), .val (.ref b13), .val (.int v35), .val (.int v36), .unset] [(.int (f3 q (1 : Int32) mk v12 v35 v36)), (.int v38)])) (st39) ?_
  generalize hv40 : (f3 q (1 : Int32) mk v12 v35 v36) = v40
  refine own_st (T' := T39) (F' := (mkF m 117 #[.val (.long q), .second, .val (.int mk), .val (.int ch), .val (.int fr), .val (.int to), .val (.int v12), .val (.ref b13), .val (.int v35), .val (.int v36), .unset] [(.int (v38 + v40))])) (fun _ kq => XS.iadd X39.here hx rfl (hb hby at_116) rfl kq) ?_
  refine own_st (T' := T39) (F' := (mkF m 118 #[.val (.long q), .second, .val (.int mk), .val (.int ch), .val (.int fr), .val (.int to), .val (.int v12), .val (.ref b13), .val (.int v35), .val (.int v36), .unset] [(.long q), (.int (v38 + v40))])) (fun _ kq => XS.lloadN X39.here hx rfl (hb hby at_117) rfl kq) ?_
  refine own_st (T' := T39) (F' := (mkF m 119 #[.val (.long q), .second, .val (.int mk), .val (.int ch), .val (.int fr), .val (.int to), .val (.int v12), .val (.ref b13), .val (.int v35), .val (.int v36), .unset] [(.int (2 : Int32)), (.long q), (.int (v38 + v40))])) (fun _ kq => XS.iconst X39.here hx rfl (hb hby at_118) kq) ?_
  refine own_st (T' := T39) (F' := (mkF m 120 #[.val (.long q), .second, .val (.int mk), .val (.int ch), .val (.int fr), .val (.int to), .val (.int v12), .val (.ref b13), .val (.int v35), .val (.int v36), .unset] [(.int mk), (.int (2 : Int32)), (.long q), (.int (v38 + v40))])) (fun _ kq => XS.iloadN X39.here hx rfl (hb hby at_119) rfl kq) ?_
  refine own_st (T' := T39) (F' := (mkF m 122 #[.val (.long q), .second, .val (.int mk), .val (.int ch), .val (.int fr), .val (.int to), .val (.int v12), .val (.ref b13), .val (.int v35), .val (.int v36), .unset] [(.int v12), (.int mk), (.int (2 : Int32)), (.long q), (.int (v38 + v40))])) (fun _ kq => XS.iload X39.here hx rfl (hb hby at_120) rfl kq) ?_
  refine own_st (T' := T39) (F' := (mkF m 124 #[.val (.long q), .second, .val (.int mk), .val (.int ch), .val (.int fr), .val (.int to), .val (.int v12), .val (.ref b13), .val (.int v35), .val (.int v36), .unset] [(.int v35), (.int v12), (.int mk), (.int (2 : Int32)), (.long q), (.int (v38 + v40))])) (fun _ kq => XS.iload X39.here hx rfl (hb hby at_122) rfl kq) ?_
  refine own_st (T' := T39) (F' := (mkF m 126 #[.val (.long q), .second, .val (.int mk), .val (.int ch), .val (.int fr), .val (.int to), .val (.int v12), .val (.ref b13), .val (.int v35), .val (.int v36), .unset] [(.int v36), (.int v35), (.int v12), (.int mk), (.int (2 : Int32)), (.long q), (.int (v38 + v40))])) (fun _ kq => XS.iload X39.here hx rfl (hb hby at_124) rfl kq) ?_
  obtain ⟨T41, locs41, X41, e41, N41, st41⟩ := own_callP X39 hx hZ 1 hown (hw _ (List.mem_of_getElem? (i := 9) rfl)) (hw _ (List.mem_of_getElem? (i := 10) rfl)) (hw _ (List.mem_of_getElem? (i := 3) rfl)) (hw _ (List.mem_of_getElem? (i := 11) rfl)) (by decide) (rm3 l Z a0 hw [] q (2 : Int32) mk v12 v35 v36 h33 n0) (by decide) (by decide) rfl rfl e39 N39 (by decide) (by decide) (g := (mkF m 126 #[.val (.long q), .second, .val (.int mk), .val (.int ch), .val (.int fr), .val (.int to), .val (.int v12), .val (.ref b13), .val (.int v35), .val (.int v36), .unset] [(.int v36), (.int v35), (.int v12), (.int mk), (.int (2 : Int32)), (.long q), (.int (v38 + v40))])) rfl (by rw [hml]; rfl) (argsL := [(.long q), (.int (2 : Int32)), (.int mk), (.int v12), (.int v35), (.int v36)]) (rest := [(.int (v38 + v40))]) (lenOf pd2 rfl) rfl rfl (by show 2 * 0 + _ ≤ _; exact Nat.le_of_eq rfl) (hb hby at_126)
  refine own_st (T' := T41) (F' := (mkF m 129 #[.val (.long q), .second, .val (.int mk), .val (.int ch), .val (.int fr), .val (.int to), .val (.int v12), .val (.ref b13), .val (.int v35), .val (.int v36), .unset] [(.int (f3 q (2 : Int32) mk v12 v35 v36)), (.int (v38 + v40))])) (st41) ?_
  generalize hv42 : (f3 q (2 : Int32) mk v12 v35 v36) = v42
  refine own_st (T' := T41) (F' := (mkF m 130 #[.val (.long q), .second, .val (.int mk), .val (.int ch), .val (.int fr), .val (.int to), .val (.int v12), .val (.ref b13), .val (.int v35), .val (.int v36), .unset] [(.int ((v38 + v40) + v42))])) (fun _ kq => XS.iadd X41.here hx rfl (hb hby at_129) rfl kq) ?_
  refine own_st (T' := T41) (F' := (mkF m 131 #[.val (.long q), .second, .val (.int mk), .val (.int ch), .val (.int fr), .val (.int to), .val (.int v12), .val (.ref b13), .val (.int v35), .val (.int v36), .unset] [(.long q), (.int ((v38 + v40) + v42))])) (fun _ kq => XS.lloadN X41.here hx rfl (hb hby at_130) rfl kq) ?_
  refine own_st (T' := T41) (F' := (mkF m 132 #[.val (.long q), .second, .val (.int mk), .val (.int ch), .val (.int fr), .val (.int to), .val (.int v12), .val (.ref b13), .val (.int v35), .val (.int v36), .unset] [(.int (3 : Int32)), (.long q), (.int ((v38 + v40) + v42))])) (fun _ kq => XS.iconst X41.here hx rfl (hb hby at_131) kq) ?_
  refine own_st (T' := T41) (F' := (mkF m 133 #[.val (.long q), .second, .val (.int mk), .val (.int ch), .val (.int fr), .val (.int to), .val (.int v12), .val (.ref b13), .val (.int v35), .val (.int v36), .unset] [(.int mk), (.int (3 : Int32)), (.long q), (.int ((v38 + v40) + v42))])) (fun _ kq => XS.iloadN X41.here hx rfl (hb hby at_132) rfl kq) ?_
  refine own_st (T' := T41) (F' := (mkF m 135 #[.val (.long q), .second, .val (.int mk), .val (.int ch), .val (.int fr), .val (.int to), .val (.int v12), .val (.ref b13), .val (.int v35), .val (.int v36), .unset] [(.int v12), (.int mk), (.int (3 : Int32)), (.long q), (.int ((v38 + v40) + v42))])) (fun _ kq => XS.iload X41.here hx rfl (hb hby at_133) rfl kq) ?_
  refine own_st (T' := T41) (F' := (mkF m 137 #[.val (.long q), .second, .val (.int mk), .val (.int ch), .val (.int fr), .val (.int to), .val (.int v12), .val (.ref b13), .val (.int v35), .val (.int v36), .unset] [(.int v35), (.int v12), (.int mk), (.int (3 : Int32)), (.long q), (.int ((v38 + v40) + v42))])) (fun _ kq => XS.iload X41.here hx rfl (hb hby at_135) rfl kq) ?_
  refine own_st (T' := T41) (F' := (mkF m 139 #[.val (.long q), .second, .val (.int mk), .val (.int ch), .val (.int fr), .val (.int to), .val (.int v12), .val (.ref b13), .val (.int v35), .val (.int v36), .unset] [(.int v36), (.int v35), (.int v12), (.int mk), (.int (3 : Int32)), (.long q), (.int ((v38 + v40) + v42))])) (fun _ kq => XS.iload X41.here hx rfl (hb hby at_137) rfl kq) ?_
  obtain ⟨T43, locs43, X43, e43, N43, st43⟩ := own_callP X41 hx hZ 1 hown (hw _ (List.mem_of_getElem? (i := 9) rfl)) (hw _ (List.mem_of_getElem? (i := 10) rfl)) (hw _ (List.mem_of_getElem? (i := 3) rfl)) (hw _ (List.mem_of_getElem? (i := 11) rfl)) (by decide) (rm3 l Z a0 hw [] q (3 : Int32) mk v12 v35 v36 h33 n0) (by decide) (by decide) rfl rfl e41 N41 (by decide) (by decide) (g := (mkF m 139 #[.val (.long q), .second, .val (.int mk), .val (.int ch), .val (.int fr), .val (.int to), .val (.int v12), .val (.ref b13), .val (.int v35), .val (.int v36), .unset] [(.int v36), (.int v35), (.int v12), (.int mk), (.int (3 : Int32)), (.long q), (.int ((v38 + v40) + v42))])) rfl (by rw [hml]; rfl) (argsL := [(.long q), (.int (3 : Int32)), (.int mk), (.int v12), (.int v35), (.int v36)]) (rest := [(.int ((v38 + v40) + v42))]) (lenOf pd2 rfl) rfl rfl (by show 2 * 0 + _ ≤ _; exact Nat.le_of_eq rfl) (hb hby at_139)
  refine own_st (T' := T43) (F' := (mkF m 142 #[.val (.long q), .second, .val (.int mk), .val (.int ch), .val (.int fr), .val (.int to), .val (.int v12), .val (.ref b13), .val (.int v35), .val (.int v36), .unset] [(.int (f3 q (3 : Int32) mk v12 v35 v36)), (.int ((v38 + v40) + v42))])) (st43) ?_
  generalize hv44 : (f3 q (3 : Int32) mk v12 v35 v36) = v44
  refine own_st (T' := T43) (F' := (mkF m 143 #[.val (.long q), .second, .val (.int mk), .val (.int ch), .val (.int fr), .val (.int to), .val (.int v12), .val (.ref b13), .val (.int v35), .val (.int v36), .unset] [(.int (((v38 + v40) + v42) + v44))])) (fun _ kq => XS.iadd X43.here hx rfl (hb hby at_142) rfl kq) ?_
  refine own_st (T' := T43) (F' := (mkF m 144 #[.val (.long q), .second, .val (.int mk), .val (.int ch), .val (.int fr), .val (.int to), .val (.int v12), .val (.ref b13), .val (.int v35), .val (.int v36), .unset] [(.long q), (.int (((v38 + v40) + v42) + v44))])) (fun _ kq => XS.lloadN X43.here hx rfl (hb hby at_143) rfl kq) ?_
  refine own_st (T' := T43) (F' := (mkF m 145 #[.val (.long q), .second, .val (.int mk), .val (.int ch), .val (.int fr), .val (.int to), .val (.int v12), .val (.ref b13), .val (.int v35), .val (.int v36), .unset] [(.int (4 : Int32)), (.long q), (.int (((v38 + v40) + v42) + v44))])) (fun _ kq => XS.iconst X43.here hx rfl (hb hby at_144) kq) ?_
  refine own_st (T' := T43) (F' := (mkF m 146 #[.val (.long q), .second, .val (.int mk), .val (.int ch), .val (.int fr), .val (.int to), .val (.int v12), .val (.ref b13), .val (.int v35), .val (.int v36), .unset] [(.int mk), (.int (4 : Int32)), (.long q), (.int (((v38 + v40) + v42) + v44))])) (fun _ kq => XS.iloadN X43.here hx rfl (hb hby at_145) rfl kq) ?_
  refine own_st (T' := T43) (F' := (mkF m 148 #[.val (.long q), .second, .val (.int mk), .val (.int ch), .val (.int fr), .val (.int to), .val (.int v12), .val (.ref b13), .val (.int v35), .val (.int v36), .unset] [(.int v12), (.int mk), (.int (4 : Int32)), (.long q), (.int (((v38 + v40) + v42) + v44))])) (fun _ kq => XS.iload X43.here hx rfl (hb hby at_146) rfl kq) ?_
  refine own_st (T' := T43) (F' := (mkF m 150 #[.val (.long q), .second, .val (.int mk), .val (.int ch), .val (.int fr), .val (.int to), .val (.int v12), .val (.ref b13), .val (.int v35), .val (.int v36), .unset] [(.int v35), (.int v12), (.int mk), (.int (4 : Int32)), (.long q), (.int (((v38 + v40) + v42) + v44))])) (fun _ kq => XS.iload X43.here hx rfl (hb hby at_148) rfl kq) ?_
  refine own_st (T' := T43) (F' := (mkF m 152 #[.val (.long q), .second, .val (.int mk), .val (.int ch), .val (.int fr), .val (.int to), .val (.int v12), .val (.ref b13), .val (.int v35), .val (.int v36), .unset] [(.int v36), (.int v35), (.int v12), (.int mk), (.int (4 : Int32)), (.long q), (.int (((v38 + v40) + v42) + v44))])) (fun _ kq => XS.iload X43.here hx rfl (hb hby at_150) rfl kq) ?_
  obtain ⟨T45, locs45, X45, e45, N45, st45⟩ := own_callP X43 hx hZ 1 hown (hw _ (List.mem_of_getElem? (i := 9) rfl)) (hw _ (List.mem_of_getElem? (i := 10) rfl)) (hw _ (List.mem_of_getElem? (i := 3) rfl)) (hw _ (List.mem_of_getElem? (i := 11) rfl)) (by decide) (rm3 l Z a0 hw [] q (4 : Int32) mk v12 v35 v36 h33 n0) (by decide) (by decide) rfl rfl e43 N43 (by decide) (by decide) (g := (mkF m 152 #[.val (.long q), .second, .val (.int mk), .val (.int ch), .val (.int fr), .val (.int to), .val (.int v12), .val (.ref b13), .val (.int v35), .val (.int v36), .unset] [(.int v36), (.int v35), (.int v12), (.int mk), (.int (4 : Int32)), (.long q), (.int (((v38 + v40) + v42) + v44))])) rfl (by rw [hml]; rfl) (argsL := [(.long q), (.int (4 : Int32)), (.int mk), (.int v12), (.int v35), (.int v36)]) (rest := [(.int (((v38 + v40) + v42) + v44))]) (lenOf pd2 rfl) rfl rfl (by show 2 * 0 + _ ≤ _; exact Nat.le_of_eq rfl) (hb hby at_152)
  refine own_st (T' := T45) (F' := (mkF m 155 #[.val (.long q), .second, .val (.int mk), .val (.int ch), .val (.int fr), .val (.int to), .val (.int v12), .val (.ref b13), .val (.int v35), .val (.int v36), .unset] [(.int (f3 q (4 : Int32) mk v12 v35 v36)), (.int (((v38 + v40) + v42) + v44))])) (st45) ?_
  generalize hv46 : (f3 q (4 : Int32) mk v12 v35 v36) = v46
  refine own_st (T' := T45) (F' := (mkF m 156 #[.val (.long q), .second, .val (.int mk), .val (.int ch), .val (.int fr), .val (.int to), .val (.int v12), .val (.ref b13), .val (.int v35), .val (.int v36), .unset] [(.int ((((v38 + v40) + v42) + v44) + v46))])) (fun _ kq => XS.iadd X45.here hx rfl (hb hby at_155) rfl kq) ?_
  refine own_st (T' := T45) (F' := (mkF m 158 #[.val (.long q), .second, .val (.int mk), .val (.int ch), .val (.int fr), .val (.int to), .val (.int v12), .val (.ref b13), .val (.int v35), .val (.int v36), .val (.int ((((v38 + v40) + v42) + v44) + v46))] [])) (fun _ kq => XS.istore X45.here hx rfl (hb hby at_156) rfl (l' := #[.val (.long q), .second, .val (.int mk), .val (.int ch), .val (.int fr), .val (.int to), .val (.int v12), .val (.ref b13), .val (.int v35), .val (.int v36), .val (.int ((((v38 + v40) + v42) + v44) + v46))]) rfl kq) ?_
  have hfr := own_rem6 fr
  rw [hv35] at hfr
  have hto := own_rem6 to
  rw [hv36] at hto
  have hch := own_ch ch
  rw [hv12] at hch
  refine own_st (T' := T45) (F' := (mkF m 160 #[.val (.long q), .second, .val (.int mk), .val (.int ch), .val (.int fr), .val (.int to), .val (.int v12), .val (.ref b13), .val (.int v35), .val (.int v36), .val (.int ((((v38 + v40) + v42) + v44) + v46))] [(.ref b13)])) (fun _ kq => XS.aload X45.here hx rfl (hb hby at_158) rfl rfl kq) ?_
  refine own_st (T' := T45) (F' := (mkF m 162 #[.val (.long q), .second, .val (.int mk), .val (.int ch), .val (.int fr), .val (.int to), .val (.int v12), .val (.ref b13), .val (.int v35), .val (.int v36), .val (.int ((((v38 + v40) + v42) + v44) + v46))] [(.int v12), (.ref b13)])) (fun _ kq => XS.iload X45.here hx rfl (hb hby at_160) rfl kq) ?_
  refine own_st (T' := T45) (F' := (mkF m 164 #[.val (.long q), .second, .val (.int mk), .val (.int ch), .val (.int fr), .val (.int to), .val (.int v12), .val (.ref b13), .val (.int v35), .val (.int v36), .val (.int ((((v38 + v40) + v42) + v44) + v46))] [(.int v35), (.int v12), (.ref b13)])) (fun _ kq => XS.iload X45.here hx rfl (hb hby at_162) rfl kq) ?_
  refine own_st (T' := T45) (F' := (mkF m 166 #[.val (.long q), .second, .val (.int mk), .val (.int ch), .val (.int fr), .val (.int to), .val (.int v12), .val (.ref b13), .val (.int v35), .val (.int v36), .val (.int ((((v38 + v40) + v42) + v44) + v46))] [(.int v36), (.int v35), (.int v12), (.ref b13)])) (fun _ kq => XS.iload X45.here hx rfl (hb hby at_164) rfl kq) ?_
  obtain ⟨T47, locs47, X47, e47, N47, st47⟩ := own_callP X45 hx hZ 0 hown (hw _ (List.mem_of_getElem? (i := 12) rfl)) (hw _ (List.mem_of_getElem? (i := 13) rfl)) (hw _ (List.mem_of_getElem? (i := 14) rfl)) (hw _ (List.mem_of_getElem? (i := 15) rfl)) (by decide) (rm4 l Z a0 hw [] b13 v12 v35 v36 (5 : Int32) [(v16.toInt8.toInt32), (v20.toInt8.toInt32), (v24.toInt8.toInt32), (v28.toInt8.toInt32), (v32.toInt8.toInt32)] h33 n0 V33 hfr.1 (by simpa using hto.2) (own_gap hfr.1 hto.2)) (by decide) (by decide) rfl rfl e45 N45 (by decide) (by decide) (g := (mkF m 166 #[.val (.long q), .second, .val (.int mk), .val (.int ch), .val (.int fr), .val (.int to), .val (.int v12), .val (.ref b13), .val (.int v35), .val (.int v36), .val (.int ((((v38 + v40) + v42) + v44) + v46))] [(.int v36), (.int v35), (.int v12), (.ref b13)])) rfl (by rw [hml]; rfl) (argsL := [(.ref b13), (.int v12), (.int v35), (.int v36)]) (rest := []) (lenOf pd3 rfl) rfl rfl (by show 2 * 0 + _ ≤ _; exact Nat.le_of_eq rfl) (hb hby at_166)
  refine own_st (T' := T47) (F' := (mkF m 169 #[.val (.long q), .second, .val (.int mk), .val (.int ch), .val (.int fr), .val (.int to), .val (.int v12), .val (.ref b13), .val (.int v35), .val (.int v36), .val (.int ((((v38 + v40) + v42) + v44) + v46))] [(.int (own_ct [(v16.toInt8.toInt32), (v20.toInt8.toInt32), (v24.toInt8.toInt32), (v28.toInt8.toInt32), (v32.toInt8.toInt32)] v12 v36 5 v35 0))])) (st47) ?_
  generalize hv48 : (own_ct [(v16.toInt8.toInt32), (v20.toInt8.toInt32), (v24.toInt8.toInt32), (v28.toInt8.toInt32), (v32.toInt8.toInt32)] v12 v36 5 v35 0) = v48
  refine own_st (T' := T47) (F' := (mkF m 171 #[.val (.long q), .second, .val (.int mk), .val (.int ch), .val (.int fr), .val (.int to), .val (.int v12), .val (.ref b13), .val (.int v35), .val (.int v36), .val (.int ((((v38 + v40) + v42) + v44) + v46))] [(.int ((((v38 + v40) + v42) + v44) + v46)), (.int v48)])) (fun _ kq => XS.iload X47.here hx rfl (hb hby at_169) rfl kq) ?_
  refine own_st (T' := T47) (F' := (mkF m 174 #[.val (.long q), .second, .val (.int mk), .val (.int ch), .val (.int fr), .val (.int to), .val (.int v12), .val (.ref b13), .val (.int v35), .val (.int v36), .val (.int ((((v38 + v40) + v42) + v44) + v46))] [])) (fun _ kq => XS.icmpNo X47.here hx rfl (hb hby at_171) rfl (teq (by rw [← hv48, ← hv38, own_f3 hch, hv16, ← hv40, own_f3 hch, hv20, ← hv42, own_f3 hch, hv24, ← hv44, own_f3 hch, hv28, ← hv46, own_f3 hch, hv32, own_law _ _ _ _ _ _ _ _ hfr hto])).2 kq) ?_
  refine own_st (T' := T47) (F' := (mkF m 175 #[.val (.long q), .second, .val (.int mk), .val (.int ch), .val (.int fr), .val (.int to), .val (.int v12), .val (.ref b13), .val (.int v35), .val (.int v36), .val (.int ((((v38 + v40) + v42) + v44) + v46))] [(.int (1 : Int32))])) (fun _ kq => XS.iconst X47.here hx rfl (hb hby at_174) kq) ?_
  refine own_st (T' := T47) (F' := (mkF m 179 #[.val (.long q), .second, .val (.int mk), .val (.int ch), .val (.int fr), .val (.int to), .val (.int v12), .val (.ref b13), .val (.int v35), .val (.int v36), .val (.int ((((v38 + v40) + v42) + v44) + v46))] [(.int (1 : Int32))])) (fun _ kq => XS.goto X47.here hx rfl (pc0 := 175) (pc' := 179) rfl (hb hby at_175) (by decide) (by decide) kq) ?_
  exact own_retN X47 hx hlk hret (by simp) (hb hby at_179) (by decide) (by decide) ⟨rfl, N47⟩
set_option maxRecDepth 65536 in
theorem comes_1 {Post : Tables → Env → Array Value → State → Outcome → State → Prop} (hpost : ∀ tb e args s v u, (limb_1_1.after args s (.returned v) u = true ∧ limb_1_2.after args s (.returned v) u = true ∧ True) → FrameEnd s (.returned v) u (Jvm.fieldLocs frame_1_writes args s ++ Jvm.arrayLocs frame_1_arrays args s ++ Jvm.staticLocs frame_1_statics s) 16 128 → Post tb e args s (.returned v) u) :
    ArmFor flags0 classFile x code maxLocals ret World_1 tables_1 room_1 Calls_1 rest_1 Pre_1 Post := by
  intro l hfl _ _ p e ha hc hk s m args below hf hA hF happ hP
  obtain ⟨hcalls, hrest, hpre⟩ := hP
  obtain ⟨-, -, -, hnamed, -, -, -, hat⟩ := (Spec.applies_iff hf).mp happ
  obtain ⟨hg, hn⟩ := and_e (Cond.before_iff.mp (show (Jvm.Cond.and given_1 narrow_1).before args s = true from hpre))
  obtain ⟨g0, r0⟩ := and_e hg
  obtain ⟨g1, r1⟩ := and_e r0
  obtain ⟨g2, r2⟩ := and_e r1
  obtain ⟨g3, r3⟩ := and_e r2
  obtain ⟨g4, r4⟩ := and_e r3
  obtain ⟨w0, w1, w2, w3, w4, rfl⟩ : ∃ w0 w1 w2 w3 w4 : Value, args = #[w0, w1, w2, w3, w4] := by
    have hs : args.size = 5 := by simpa [Cond.value, given_1] using g0
    obtain ⟨L⟩ := args
    match L, hs with
    | [w0, w1, w2, w3, w4], _ => exact ⟨w0, w1, w2, w3, w4, rfl⟩
  have hw := fun d (hd : d ∈ tables_1) => atoms_spec (ws := Jvm.Cond.code x code maxLocals ret :: tables_1) hat d (List.mem_cons_of_mem _ hd)
  obtain ⟨i0, ei0⟩ := isL_v g1
  obtain rfl : w0 = (.long i0) := Option.some.inj ei0
  obtain ⟨i1, ei1⟩ := is_v g2
  obtain rfl : w1 = (.int i1) := Option.some.inj ei1
  obtain ⟨i2, ei2⟩ := is_v g3
  obtain rfl : w2 = (.int i2) := Option.some.inj ei2
  obtain ⟨i3, ei3⟩ := is_v g4
  obtain rfl : w3 = (.int i3) := Option.some.inj ei3
  obtain ⟨i4, ei4⟩ := is_v r4
  obtain rfl : w4 = (.int i4) := Option.some.inj ei4
  obtain ⟨n, o, h1, h2, h3, _, L, rfl, ⟨rfl, N⟩, hq⟩ := rm0 l s _ hw tables_1 i0 i1 i2 i3 i4 s.heap s.heap.size (Nat.le_refl _) p e ha hc hk s m _ below hf ((Spec.applies_iff_loose hf).mp happ).1 ⟨rfl, State.Warmed39.refl s, rfl⟩ trivial
  refine ⟨n, _, h1, h2, h3, hpost _ _ _ _ _ _ ⟨Cond.after_iff.mpr rfl, Cond.after_iff.mpr (eq_i res_at (Term.int_eval (1)) rfl), trivial⟩ ⟨hq.1, hq.2.1, (hq.2.2.sift fun y hy => Or.inr (N y hy)).mono (by decide) (by decide)⟩⟩
theorem main_1_1 : Claimed_1_1 := comes_1 fun _ _ _ _ _ _ h hF => ⟨h.1, hF⟩
theorem main_1_2 : Claimed_1_2 := comes_1 fun _ _ _ _ _ _ h hF => ⟨h.2.1, hF⟩
end Jvm.Pilot.@@N@@
namespace Jvm.Pilot.@@N@@
open Jvm Jvm.ClassFile Sem Op Lib Jvm.Free Jvm.Stand Jvm.Pilot.@@N@@.Jvm.D
/-! MADE BY PROGRAM (witnessworld.py) out of the Statement's table words and the real class files: 9 classes; the members and pool entries that the words name. The judged class is class 1, her method 1. -/
namespace start1
open Jvm.ClassFile
def u (s : String) : CpInfo := .utf8 (stringToUtf16 s)
/-- a pool by its gaps: so many unusable entries, then the entry; so many at the end -/
def gap : Nat → List CpInfo → List CpInfo
  | 0, r => r
  | n + 1, r => .unusable :: gap n r
def poolList (es : List (Nat × CpInfo)) (last : Nat) : List CpInfo := es.foldr (fun e r => gap e.1 (e.2 :: r)) (gap last [])
def pool (es : List (Nat × CpInfo)) (last : Nat) : Array CpInfo := ⟨poolList es last⟩
def fileOf (pool : Array CpInfo) (this : Nat) (attrs : Array Attribute := #[]) (ms : Array MethodInfo := #[]) (fl : Nat := 33) (sup : Nat := 0) (ifs : Array Nat := #[]) (fds : Array FieldInfo := #[]) : ClassFile where
  minorVersion := 0
  majorVersion := 65
  constantPool := pool
  accessFlags := fl
  thisClass := this
  superClass := sup
  interfaces := ifs
  fields := fds
  methods := ms
  attributes := attrs
def plain (name : String) (sup : Option ClassId) : Class where
  name := name
  kind := .ordinary
  loader := none
  accessFlags := 33
  super := sup
  interfaces := #[]
  cf := none
  fields := #[]
  methods := #[]
  instanceTypes := #[]
  staticTypes := #[]
  resolved := #[]
  callSites := []
  init := .initialized
  statics := none
  mirror := none

def pool0 : Array CpInfo := pool [(5, u "<init>"), (0, u "()V"), (1, .class_ 10), (1, u "java/lang/Object")] 113

def k0m0 : Method := { name := "<init>", desc := "()V", sig := { parameters := [], returnType := none }, accessFlags := 1, code := none }
/-- java/lang/Object -/
def k0 : Class := { plain "java/lang/Object" none with
  accessFlags := 33
  interfaces := #[]
  cf := some (fileOf pool0 8 #[] #[{ accessFlags := 1, nameIndex := 5, descriptorIndex := 6, attributes := #[] }] 33 0 #[] #[])
  fields := #[]
  methods := #[k0m0]
  instanceTypes := #[]
  staticTypes := #[]
  resolved := Array.replicate 124 none
  statics := none }

def pool1 : Array CpInfo := pool [(2, .class_ 4), (1, u "java/lang/Object"), (0, u "<init>"), (0, u "()V"), (0, .methodref 8 9), (0, .class_ 10), (0, .nameAndType 11 12), (0, u "com/example/ogma/ogma/canon/BytesCountPinLaw"), (0, u "pick"), (0, u "(JIIC)B"), (0, .integer 2147483647), (0, .methodref 8 15), (0, .nameAndType 16 17), (0, u "hit"), (0, u "(JIICII)I"), (0, .methodref 19 20), (0, .class_ 21), (0, .nameAndType 22 23), (0, u "com/example/ogma/ogma/canon/Bytes"), (0, u "count"), (0, u "([BCII)I"), (0, .methodref 8 25), (0, .nameAndType 26 27), (0, u "rawByte"), (0, u "(JI)B"), (2, u "law"), (0, u "(JIIII)Z")] 5

def k1m0 : Method := { name := "<init>", desc := "()V", sig := { parameters := [], returnType := none }, accessFlags := 1, code := none }
def k1c1 : Code := { maxStack := 8, maxLocals := 11, code := code, exceptionTable := #[], attributes := #[] }
def k1m1 : Method := { name := "law", desc := "(JIIII)Z", sig := { parameters := [.long, .int, .int, .int, .int], returnType := some .boolean }, accessFlags := 9, code := some k1c1 }
def k1c2 : Code := { maxStack := 4, maxLocals := 3, code := method_3_code, exceptionTable := #[], attributes := #[] }
def k1m2 : Method := { name := "rawByte", desc := "(JI)B", sig := { parameters := [.long, .int], returnType := some .byte }, accessFlags := 10, code := some k1c2 }
def k1c3 : Code := { maxStack := 3, maxLocals := 5, code := method_4_code, exceptionTable := #[], attributes := #[] }
def k1m3 : Method := { name := "pick", desc := "(JIIC)B", sig := { parameters := [.long, .int, .int, .char], returnType := some .byte }, accessFlags := 10, code := some k1c3 }
def k1c4 : Code := { maxStack := 3, maxLocals := 7, code := method_5_code, exceptionTable := #[], attributes := #[] }
def k1m4 : Method := { name := "hit", desc := "(JIICII)I", sig := { parameters := [.long, .int, .int, .char, .int, .int], returnType := some .int }, accessFlags := 10, code := some k1c4 }
/-- com/example/ogma/ogma/canon/BytesCountPinLaw -/
def k1 : Class := { plain "com/example/ogma/ogma/canon/BytesCountPinLaw" (some 0) with
  accessFlags := 49
  interfaces := #[]
  cf := some (fileOf pool1 8 #[] #[{ accessFlags := 1, nameIndex := 5, descriptorIndex := 6, attributes := #[] }, { accessFlags := 9, nameIndex := 30, descriptorIndex := 31, attributes := #[] }, { accessFlags := 10, nameIndex := 26, descriptorIndex := 27, attributes := #[] }, { accessFlags := 10, nameIndex := 11, descriptorIndex := 12, attributes := #[] }, { accessFlags := 10, nameIndex := 16, descriptorIndex := 17, attributes := #[] }] 49 2 #[] #[])
  fields := #[]
  methods := #[k1m0, k1m1, k1m2, k1m3, k1m4]
  instanceTypes := #[]
  staticTypes := #[]
  resolved := Array.replicate 37 none
  statics := none }

def pool2 : Array CpInfo := pool [(2, .class_ 4), (1, u "java/lang/Object"), (0, u "<init>"), (0, u "()V"), (0, .class_ 8), (0, u "com/example/ogma/ogma/canon/Bytes"), (3, u "([BCII)I"), (1, u "count")] 2

def k2m0 : Method := { name := "<init>", desc := "()V", sig := { parameters := [], returnType := none }, accessFlags := 2, code := none }
def k2c1 : Code := { maxStack := 2, maxLocals := 6, code := prog_1_method_3_code, exceptionTable := #[], attributes := #[] }
def k2m1 : Method := { name := "count", desc := "([BCII)I", sig := { parameters := [(.array .byte), .char, .int, .int], returnType := some .int }, accessFlags := 8, code := some k2c1 }
/-- com/example/ogma/ogma/canon/Bytes -/
def k2 : Class := { plain "com/example/ogma/ogma/canon/Bytes" (some 0) with
  accessFlags := 48
  interfaces := #[]
  cf := some (fileOf pool2 7 #[] #[{ accessFlags := 2, nameIndex := 5, descriptorIndex := 6, attributes := #[] }, { accessFlags := 8, nameIndex := 14, descriptorIndex := 12, attributes := #[] }] 48 2 #[] #[])
  fields := #[]
  methods := #[k2m0, k2m1]
  instanceTypes := #[]
  staticTypes := #[]
  resolved := Array.replicate 17 none
  statics := none }

def pool3 : Array CpInfo := pool [(1, u "java/lang/Cloneable"), (0, .class_ 1), (0, u "java/lang/Object"), (0, .class_ 3)] 3

/-- java/lang/Cloneable -/
def k3 : Class := { plain "java/lang/Cloneable" (some 0) with
  accessFlags := 1537
  interfaces := #[]
  cf := some (fileOf pool3 2 #[] #[] 1537 4 #[] #[])
  fields := #[]
  methods := #[]
  instanceTypes := #[]
  staticTypes := #[]
  resolved := Array.replicate 8 none
  statics := none }

def pool4 : Array CpInfo := pool [(1, u "java/io/Serializable"), (0, .class_ 1), (0, u "java/lang/Object"), (0, .class_ 3)] 3

/-- java/io/Serializable -/
def k4 : Class := { plain "java/io/Serializable" (some 0) with
  accessFlags := 1537
  interfaces := #[]
  cf := some (fileOf pool4 2 #[] #[] 1537 4 #[] #[])
  fields := #[]
  methods := #[]
  instanceTypes := #[]
  staticTypes := #[]
  resolved := Array.replicate 8 none
  statics := none }

/-- the primitive byte -/
def k5 : Class := { plain "byte" none with kind := .primitive 'B', accessFlags := 0x411 }
/-- [B -/
def k6 : Class := { plain "[B" (some 0) with kind := .array 5 .byte, interfaces := #[3, 4], accessFlags := 1041 }

/-- the primitive int -/
def k7 : Class := { plain "int" none with kind := .primitive 'I', accessFlags := 0x411 }
/-- [I -/
def k8 : Class := { plain "[I" (some 0) with kind := .array 7 .int, interfaces := #[3, 4], accessFlags := 1041 }

def heap : Heap := #[]
def classes : Array Class := #[k0, k1, k2, k3, k4, k5, k6, k7, k8]
def interned : List (Array UInt16 × Addr) := []
def slotsUsed : Nat := 0
def theMethod : MethodId := ⟨1, 1⟩
def args0 : Array Value := #[.long 5, .int 5, .int 5, .int 5, .int 5]
def aboutOver (below : List Frame) : State where
  vm := { classes := classes, interned := interned.toArray }
  heap := heap
  slotsUsed := slotsUsed
  threads := #[{ frames := .invoking theMethod args0 :: below }]
def below0 : List Frame := [.native { method := ⟨0, 0⟩, args := #[] }]
def about1 : State := aboutOver below0
def p0 : Program := .bare "" "" ""
def e0 : Env := launch0.env 0 0 0
theorem w_frames : about1.frames = Frame.invoking theMethod args0 :: below0 := rfl
set_option maxRecDepth 65536 in
theorem w_args : argsFit about1.vm theMethod args0 = true := by decide +kernel
set_option maxRecDepth 65536 in
theorem w_heap : heapFits about1 = true := by decide +kernel
set_option maxRecDepth 65536 in
theorem w_runnable : about1.curStatus? = some .runnable := by decide +kernel
set_option maxRecDepth 65536 in
theorem w_alone : about1.alone = true := by decide +kernel
set_option maxRecDepth 65536 in
theorem w_named : about1.methodNamed? x = some theMethod := by decide +kernel
set_option maxRecDepth 65536 in
theorem w_hears : about1.hears theMethod below0 = true := by decide +kernel
set_option maxRecDepth 65536 in
theorem w_ripe : about1.ripe theMethod args0 below0 = true := by decide +kernel
theorem w_running : about1.status = .running := rfl
set_option maxRecDepth 65536 in
theorem w_room : about1.hasRoom e0.platform room_1 = true :=
  launch0.hasRoom_least _ room_1 (by decide +kernel) (by decide +kernel) (by decide +kernel) (by decide +kernel) (by decide +kernel) (by decide +kernel)
theorem allAtoms_all (ts : List Jvm.Cond) (a : Array Jvm.Value) (st : Jvm.State) : (allAtoms ts).before a st = ts.all (fun c => c.before a st) := by
  induction ts with
  | nil => rfl
  | cons c t ih =>
    show (Jvm.Cond.and c (allAtoms t)).before a st = _
    rw [Jvm.Cond.before_and, ih, List.all_cons]
def words1 : List Jvm.Cond := Jvm.Cond.code x code maxLocals ret :: tables_1
/-- a 'code' word, met by the world's own term for the bytes: nothing is compared byte by byte -/
theorem code_word {y : MethodName} {bytes : ByteArray} {mx : Nat} {rt : Option FieldType} {a : Array Value} {s : State} {m : MethodId} {meth : Method} {c : Code} (h1 : s.methodNamed? y = some m) (h2 : s.vm.method? m = some meth) (h3 : meth.code = some c) (h4 : c.code = bytes)
    (h5 : (c.maxLocals == mx && c.exceptionTable.isEmpty && decide (c.maxStack ≤ mostOperands) && decide (meth.sig.returnType = rt) && !meth.locks && decide (parseMethodDescriptor y.desc = some meth.sig)) = true) : (Jvm.Cond.code y bytes mx rt).before a s = true := by
  simp only [Bool.and_eq_true, beq_iff_eq, Bool.not_eq_true', decide_eq_true_eq] at h5
  obtain ⟨⟨⟨⟨⟨g1, g2⟩, g3⟩, g4⟩, g5⟩, g6⟩ := h5
  simp [Cond.before, Cond.holds, Cond.value, h1, h2, h3, h4, g1, g2, g3, g4, g5, g6]
def isCode : Jvm.Cond → Bool
  | .code _ _ _ _ => true
  | _ => false
theorem all_split {L : List Jvm.Cond} {P : Jvm.Cond → Bool} (h1 : L.all (fun c => isCode c || P c) = true) (h2 : ∀ c ∈ L.filter isCode, P c = true) : L.all P = true := by
  refine List.all_eq_true.mpr fun c hc => ?_
  have h := List.all_eq_true.mp h1 c hc
  rcases Bool.eq_false_or_eq_true (isCode c) with hi | hi
  · exact h2 c (List.mem_filter.mpr ⟨hc, hi⟩)
  · simpa [hi] using h
set_option maxRecDepth 65536 in
theorem w_c0 : (Jvm.Cond.code x code maxLocals ret).before args0 about1 = true := code_word (m := ⟨1, 1⟩) (meth := k1m1) (c := k1c1) (by decide +kernel) rfl rfl rfl (by decide +kernel)
set_option maxRecDepth 65536 in
theorem w_c1 : (Jvm.Cond.code ({ cls := "com/example/ogma/ogma/canon/BytesCountPinLaw", name := "pick", desc := "(JIIC)B" } : Jvm.MethodName) method_4_code (5 : Nat) (Option.some Jvm.ClassFile.FieldType.byte)).before args0 about1 = true := code_word (m := ⟨1, 3⟩) (meth := k1m3) (c := k1c3) (by decide +kernel) rfl rfl rfl (by decide +kernel)
set_option maxRecDepth 65536 in
theorem w_c2 : (Jvm.Cond.code ({ cls := "com/example/ogma/ogma/canon/BytesCountPinLaw", name := "rawByte", desc := "(JI)B" } : Jvm.MethodName) method_3_code (3 : Nat) (Option.some Jvm.ClassFile.FieldType.byte)).before args0 about1 = true := code_word (m := ⟨1, 2⟩) (meth := k1m2) (c := k1c2) (by decide +kernel) rfl rfl rfl (by decide +kernel)
set_option maxRecDepth 65536 in
theorem w_c3 : (Jvm.Cond.code ({ cls := "com/example/ogma/ogma/canon/BytesCountPinLaw", name := "hit", desc := "(JIICII)I" } : Jvm.MethodName) method_5_code (7 : Nat) (Option.some Jvm.ClassFile.FieldType.int)).before args0 about1 = true := code_word (m := ⟨1, 4⟩) (meth := k1m4) (c := k1c4) (by decide +kernel) rfl rfl rfl (by decide +kernel)
set_option maxRecDepth 65536 in
theorem w_c4 : (Jvm.Cond.code ({ cls := "com/example/ogma/ogma/canon/Bytes", name := "count", desc := "([BCII)I" } : Jvm.MethodName) prog_1_method_3_code (6 : Nat) (Option.some Jvm.ClassFile.FieldType.int)).before args0 about1 = true := code_word (m := ⟨2, 1⟩) (meth := k2m1) (c := k2c1) (by decide +kernel) rfl rfl rfl (by decide +kernel)
def codes1 : List Jvm.Cond := [Jvm.Cond.code x code maxLocals ret, Jvm.Cond.code ({ cls := "com/example/ogma/ogma/canon/BytesCountPinLaw", name := "pick", desc := "(JIIC)B" } : Jvm.MethodName) method_4_code (5 : Nat) (Option.some Jvm.ClassFile.FieldType.byte), Jvm.Cond.code ({ cls := "com/example/ogma/ogma/canon/BytesCountPinLaw", name := "rawByte", desc := "(JI)B" } : Jvm.MethodName) method_3_code (3 : Nat) (Option.some Jvm.ClassFile.FieldType.byte), Jvm.Cond.code ({ cls := "com/example/ogma/ogma/canon/BytesCountPinLaw", name := "hit", desc := "(JIICII)I" } : Jvm.MethodName) method_5_code (7 : Nat) (Option.some Jvm.ClassFile.FieldType.int), Jvm.Cond.code ({ cls := "com/example/ogma/ogma/canon/Bytes", name := "count", desc := "([BCII)I" } : Jvm.MethodName) prog_1_method_3_code (6 : Nat) (Option.some Jvm.ClassFile.FieldType.int)]
set_option maxRecDepth 65536 in
theorem codes_eq : words1.filter isCode = codes1 := rfl
theorem w_codes : ∀ c ∈ words1.filter isCode, c.before args0 about1 = true := by
  rw [codes_eq]
  intro c hc
  simp only [codes1, List.mem_cons, List.not_mem_nil, or_false] at hc
  rcases hc with rfl | rfl | rfl | rfl | rfl
  · exact w_c0
  · exact w_c1
  · exact w_c2
  · exact w_c3
  · exact w_c4
set_option maxRecDepth 65536 in
theorem w_t1 : words1.all (fun c => isCode c || c.before args0 about1) = true := by decide +kernel
theorem w_tables : (allAtoms (Jvm.Cond.code x code maxLocals ret :: tables_1)).before args0 about1 = true := by
  rw [allAtoms_all]
  show words1.all (fun c => c.before args0 about1) = true
  refine all_split ?_ w_codes
  rw [w_t1]
set_option maxRecDepth 65536 in
theorem w_case : (Jvm.Cond.and given_1 narrow_1).before args0 about1 = true := by decide +kernel
theorem w_applies : (headSpec (Jvm.Cond.code x code maxLocals ret :: tables_1) room_1).applies x e0.platform about1 = true :=
  (Spec.applies_iff w_frames).mpr ⟨w_running, w_runnable, w_alone, w_named, w_hears, w_ripe, w_room, w_tables⟩
theorem atStart : AtStart classFile x code maxLocals ret World_1 tables_1 room_1 Calls_1 rest_1 Pre_1 launch0 p0 e0 about1 theMethod args0 below0 :=
  ⟨lists_1, trivial, launch0.admits_env _ _ _, launch0.least_env, fairChoices_fair.cas, fairChoices_fair.clock, w_frames, w_args, w_heap, w_applies, trivial, trivial, w_case⟩
end start1
theorem witness_1 : WitnessClaimed_1 := ⟨start1.p0, start1.e0, start1.about1, start1.theMethod, start1.args0, start1.below0, start1.atStart⟩
end Jvm.Pilot.@@N@@
