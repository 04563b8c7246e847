import JvmDerived
import JvmDerived.Pilot.@@N@@Statement
import JvmDerived.Pilot.@@N@@Code
set_option linter.unusedVariables false
set_option linter.unusedSimpArgs false
namespace Jvm.RoadKit
open Sem ClassFile Op Lib Jvm.Stand Jvm.Free Jvm.LawKit
section Own
variable {p : Program} {l : Launch} {e : Env} {R : Room} {s : State} {m : MethodId} {args : Array Value} {below : List Frame} {meth : Method} {c : Code} {T : State} {locs : List Loc} {cells slots : Nat} {Fe : Outcome → State → List Loc → Nat → Nat → Prop} {Qf : Option Value → Heap → List Loc → Prop} {kc ks : Nat} {code : ByteArray} {pc pc' : Nat} {Ls l' : Array Slot} {rest : List Value} {Z : State} {a0 : Array Value} {h : Heap}
/-- from the state S the call ends well: it returns, what is returned and the heap at the end meet Qf, and the frame is kept -/
def Gol (p : Program) (e : Env) (below : List Frame) (Fe : Outcome → State → List Loc → Nat → Nat → Prop) (Qf : Option Value → Heap → List Loc → Prop) (kc ks : Nat) (S : State) : Prop :=
  ∃ s₂ o, Steps p.tables e below S s₂ ∧ s₂.status = .running ∧ Ended s₂ below o ∧ ∃ v L, o = .returned v ∧ Qf v s₂.heap L ∧ Fe o s₂ L kc ks
theorem Gol.step {S S' : State} (st : ∀ t, Steps p.tables e below S' t → Steps p.tables e below S t) (k : Gol p e below Fe Qf kc ks S') : Gol p e below Fe Qf kc ks S := by
  obtain ⟨s₂, o, h, r⟩ := k
  exact ⟨s₂, o, st _ h, r⟩
theorem Gol.dia {S S' : State} (h1 : Gol p e below Fe Qf kc ks S' → Gol p e below Fe Qf kc ks S) (h2 : Gol p e below Fe Qf kc ks S') : Gol p e below Fe Qf kc ks S := h1 h2
/-- the run stands at pc -/
abbrev GolF (p : Program) (e : Env) (below : List Frame) (Fe : Outcome → State → List Loc → Nat → Nat → Prop) (Qf : Option Value → Heap → List Loc → Prop) (kc ks : Nat) (T : State) (m : MethodId) (pc : Nat) (Ls : Array Slot) (st : List Value) : Prop := Gol p e below Fe Qf kc ks (T.setTop (mkF m pc Ls st))
theorem Gol.fin (X : Stand p l e R s m args below meth c T locs cells slots) {v : Option Value} (hv : meth.sig.returnType = none → v = none) (hlk : meth.locks = false) {S : State} (eT : T.heap = h) (hq : Qf v h locs) (hc : cells ≤ kc) (hs : slots ≤ ks)
    (st : ∀ fs, (∀ (f : JFrame) (acts : List Action), f.method = m → f.locked = none → f.entered = [] → (doReturn e (T.setTop f) acts v).1 = T.setFrames fs) → Steps p.tables e below S (T.setFrames fs)) : Gol p e below (FrameEnd s) Qf kc ks S := by
  obtain ⟨fs, hr, hrun, hended, hW, hsame⟩ := X.leave (v := v) hv hlk
  refine ⟨_, _, st fs hr, hrun, hended, _, _, rfl, ?_, ⟨_, rfl⟩, hW, hsame.mono hc hs⟩
  show Qf v T.heap locs
  rw [eT]; exact hq
theorem Gol.aloadN (X : Stand p l e R s m args below meth c T locs cells slots) (hx : p.tables.exec = Jvm.exec) (hby : c.code = code) {k : Fin 4} {v : Value} (hd : decode code pc = .ok (.aload_n k, 1)) (pc' : Nat) (hp : pc + 1 = pc') (hl : Ls[k.val]? = some (.val v)) (hv : v.isRef = true) (k : GolF p e below Fe Qf kc ks T m pc' Ls (v :: rest)) : GolF p e below Fe Qf kc ks T m pc Ls rest := by
  subst hp
  exact Gol.step (fun _ k => XS.aloadN X.here hx rfl (hb hby hd) hl hv k) k
theorem Gol.aload (X : Stand p l e R s m args below meth c T locs cells slots) (hx : p.tables.exec = Jvm.exec) (hby : c.code = code) {k : Nat} {v : Value} (hd : decode code pc = .ok (.aload k, 2)) (pc' : Nat) (hp : pc + 2 = pc') (hl : Ls[k]? = some (.val v)) (hv : v.isRef = true) (k : GolF p e below Fe Qf kc ks T m pc' Ls (v :: rest)) : GolF p e below Fe Qf kc ks T m pc Ls rest := by
  subst hp
  exact Gol.step (fun _ k => XS.aload X.here hx rfl (hb hby hd) hl hv k) k
theorem Gol.iloadN (X : Stand p l e R s m args below meth c T locs cells slots) (hx : p.tables.exec = Jvm.exec) (hby : c.code = code) {k : Fin 4} {v : Int32} (hd : decode code pc = .ok (.iload_n k, 1)) (pc' : Nat) (hp : pc + 1 = pc') (hl : Ls[k.val]? = some (.val (.int v))) (k : GolF p e below Fe Qf kc ks T m pc' Ls (.int v :: rest)) : GolF p e below Fe Qf kc ks T m pc Ls rest := by
  subst hp
  exact Gol.step (fun _ k => XS.iloadN X.here hx rfl (hb hby hd) hl k) k
theorem Gol.iload (X : Stand p l e R s m args below meth c T locs cells slots) (hx : p.tables.exec = Jvm.exec) (hby : c.code = code) {k : Nat} {v : Int32} (hd : decode code pc = .ok (.iload k, 2)) (pc' : Nat) (hp : pc + 2 = pc') (hl : Ls[k]? = some (.val (.int v))) (k : GolF p e below Fe Qf kc ks T m pc' Ls (.int v :: rest)) : GolF p e below Fe Qf kc ks T m pc Ls rest := by
  subst hp
  exact Gol.step (fun _ k => XS.iload X.here hx rfl (hb hby hd) hl k) k
theorem Gol.istoreN (X : Stand p l e R s m args below meth c T locs cells slots) (hx : p.tables.exec = Jvm.exec) (hby : c.code = code) {k : Fin 4} {x : Int32} (hd : decode code pc = .ok (.istore_n k, 1)) (pc' : Nat) (hp : pc + 1 = pc') (hl : storeLocals Ls k.val (.int x) = some l') (k : GolF p e below Fe Qf kc ks T m pc' l' rest) : GolF p e below Fe Qf kc ks T m pc Ls (.int x :: rest) := by
  subst hp
  exact Gol.step (fun _ k => XS.istoreN X.here hx rfl (hb hby hd) rfl hl k) k
theorem Gol.istore (X : Stand p l e R s m args below meth c T locs cells slots) (hx : p.tables.exec = Jvm.exec) (hby : c.code = code) {k : Nat} {x : Int32} (hd : decode code pc = .ok (.istore k, 2)) (pc' : Nat) (hp : pc + 2 = pc') (hl : storeLocals Ls k (.int x) = some l') (k : GolF p e below Fe Qf kc ks T m pc' l' rest) : GolF p e below Fe Qf kc ks T m pc Ls (.int x :: rest) := by
  subst hp
  exact Gol.step (fun _ k => XS.istore X.here hx rfl (hb hby hd) rfl hl k) k
theorem Gol.lloadN (X : Stand p l e R s m args below meth c T locs cells slots) (hx : p.tables.exec = Jvm.exec) (hby : c.code = code) {k : Fin 4} {v : Int64} (hd : decode code pc = .ok (.lload_n k, 1)) (pc' : Nat) (hp : pc + 1 = pc') (hl : Ls[k.val]? = some (.val (.long v))) (k : GolF p e below Fe Qf kc ks T m pc' Ls (.long v :: rest)) : GolF p e below Fe Qf kc ks T m pc Ls rest := by
  subst hp
  exact Gol.step (fun _ k => XT.lloadN X.here hx rfl (hb hby hd) hl k) k
theorem Gol.lload (X : Stand p l e R s m args below meth c T locs cells slots) (hx : p.tables.exec = Jvm.exec) (hby : c.code = code) {k : Nat} {v : Int64} (hd : decode code pc = .ok (.lload k, 2)) (pc' : Nat) (hp : pc + 2 = pc') (hl : Ls[k]? = some (.val (.long v))) (k : GolF p e below Fe Qf kc ks T m pc' Ls (.long v :: rest)) : GolF p e below Fe Qf kc ks T m pc Ls rest := by
  subst hp
  exact Gol.step (fun _ k => XT.lload X.here hx rfl (hb hby hd) hl k) k
theorem Gol.lstoreN (X : Stand p l e R s m args below meth c T locs cells slots) (hx : p.tables.exec = Jvm.exec) (hby : c.code = code) {k : Fin 4} {x : Int64} (hd : decode code pc = .ok (.lstore_n k, 1)) (pc' : Nat) (hp : pc + 1 = pc') (hl : storeLocals Ls k.val (.long x) = some l') (k : GolF p e below Fe Qf kc ks T m pc' l' rest) : GolF p e below Fe Qf kc ks T m pc Ls (.long x :: rest) := by
  subst hp
  exact Gol.step (fun _ k => XT.lstoreN X.here hx rfl (hb hby hd) rfl hl k) k
theorem Gol.lstore (X : Stand p l e R s m args below meth c T locs cells slots) (hx : p.tables.exec = Jvm.exec) (hby : c.code = code) {k : Nat} {x : Int64} (hd : decode code pc = .ok (.lstore k, 2)) (pc' : Nat) (hp : pc + 2 = pc') (hl : storeLocals Ls k (.long x) = some l') (k : GolF p e below Fe Qf kc ks T m pc' l' rest) : GolF p e below Fe Qf kc ks T m pc Ls (.long x :: rest) := by
  subst hp
  exact Gol.step (fun _ k => XT.lstore X.here hx rfl (hb hby hd) rfl hl k) k
theorem Gol.astoreN (X : Stand p l e R s m args below meth c T locs cells slots) (hx : p.tables.exec = Jvm.exec) (hby : c.code = code) {k : Fin 4} {x : Value} (hd : decode code pc = .ok (.astore_n k, 1)) (pc' : Nat) (hp : pc + 1 = pc') (hv : x.isRef = true) (hl : storeLocals Ls k.val x = some l') (k : GolF p e below Fe Qf kc ks T m pc' l' rest) : GolF p e below Fe Qf kc ks T m pc Ls (x :: rest) := by
  subst hp
  exact Gol.step (fun _ k => XS.astoreN X.here hx rfl (hb hby hd) rfl hv hl k) k
theorem Gol.astore (X : Stand p l e R s m args below meth c T locs cells slots) (hx : p.tables.exec = Jvm.exec) (hby : c.code = code) {k : Nat} {x : Value} (hd : decode code pc = .ok (.astore k, 2)) (pc' : Nat) (hp : pc + 2 = pc') (hv : x.isRef = true) (hl : storeLocals Ls k x = some l') (k : GolF p e below Fe Qf kc ks T m pc' l' rest) : GolF p e below Fe Qf kc ks T m pc Ls (x :: rest) := by
  subst hp
  exact Gol.step (fun _ k => XS.astore X.here hx rfl (hb hby hd) rfl hv hl k) k
theorem Gol.iconst (X : Stand p l e R s m args below meth c T locs cells slots) (hx : p.tables.exec = Jvm.exec) (hby : c.code = code) {i : Int} {z : Int32} (hd : decode code pc = .ok (.iconst i, 1)) (pc' : Nat) (hp : pc + 1 = pc') (hz : Int32.ofInt i = z) (k : GolF p e below Fe Qf kc ks T m pc' Ls (.int z :: rest)) : GolF p e below Fe Qf kc ks T m pc Ls rest := by
  subst hp hz
  exact Gol.step (fun _ k => XS.iconst X.here hx rfl (hb hby hd) k) k
theorem Gol.bipush (X : Stand p l e R s m args below meth c T locs cells slots) (hx : p.tables.exec = Jvm.exec) (hby : c.code = code) {i : Int} {z : Int32} (hd : decode code pc = .ok (.bipush i, 2)) (pc' : Nat) (hp : pc + 2 = pc') (hz : (Int8.ofInt i).toInt32 = z) (k : GolF p e below Fe Qf kc ks T m pc' Ls (.int z :: rest)) : GolF p e below Fe Qf kc ks T m pc Ls rest := by
  subst hp hz
  exact Gol.step (fun _ k => XS.bipush X.here hx rfl (hb hby hd) k) k
theorem Gol.sipush (X : Stand p l e R s m args below meth c T locs cells slots) (hx : p.tables.exec = Jvm.exec) (hby : c.code = code) {i : Int} {z : Int32} (hd : decode code pc = .ok (.sipush i, 3)) (pc' : Nat) (hp : pc + 3 = pc') (hz : (Int16.ofInt i).toInt32 = z) (k : GolF p e below Fe Qf kc ks T m pc' Ls (.int z :: rest)) : GolF p e below Fe Qf kc ks T m pc Ls rest := by
  subst hp hz
  exact Gol.step (fun _ k => XS.sipush X.here hx rfl (hb hby hd) k) k
theorem Gol.lconst (X : Stand p l e R s m args below meth c T locs cells slots) (hx : p.tables.exec = Jvm.exec) (hby : c.code = code) {i : Fin 2} {z : Int64} (hd : decode code pc = .ok (.lconst i, 1)) (pc' : Nat) (hp : pc + 1 = pc') (hz : Int64.ofNat i = z) (k : GolF p e below Fe Qf kc ks T m pc' Ls (.long z :: rest)) : GolF p e below Fe Qf kc ks T m pc Ls rest := by
  subst hp hz
  exact Gol.step (fun _ k => XT.lconst X.here hx rfl (hb hby hd) k) k
theorem Gol.iadd (X : Stand p l e R s m args below meth c T locs cells slots) (hx : p.tables.exec = Jvm.exec) (hby : c.code = code) {x y z : Int32} (hd : decode code pc = .ok (.iadd, 1)) (pc' : Nat) (hp : pc + 1 = pc') (hz : x + y = z) (k : GolF p e below Fe Qf kc ks T m pc' Ls (.int z :: rest)) : GolF p e below Fe Qf kc ks T m pc Ls (.int y :: .int x :: rest) := by
  subst hp hz
  exact Gol.step (fun _ k => XS.iadd X.here hx rfl (hb hby hd) rfl k) k
theorem Gol.ladd (X : Stand p l e R s m args below meth c T locs cells slots) (hx : p.tables.exec = Jvm.exec) (hby : c.code = code) {x y z : Int64} (hd : decode code pc = .ok (.ladd, 1)) (pc' : Nat) (hp : pc + 1 = pc') (hz : x + y = z) (k : GolF p e below Fe Qf kc ks T m pc' Ls (.long z :: rest)) : GolF p e below Fe Qf kc ks T m pc Ls (.long y :: .long x :: rest) := by
  subst hp hz
  exact Gol.step (fun _ k => XT.ladd X.here hx rfl (hb hby hd) rfl k) k
theorem Gol.isub (X : Stand p l e R s m args below meth c T locs cells slots) (hx : p.tables.exec = Jvm.exec) (hby : c.code = code) {x y z : Int32} (hd : decode code pc = .ok (.isub, 1)) (pc' : Nat) (hp : pc + 1 = pc') (hz : x - y = z) (k : GolF p e below Fe Qf kc ks T m pc' Ls (.int z :: rest)) : GolF p e below Fe Qf kc ks T m pc Ls (.int y :: .int x :: rest) := by
  subst hp hz
  exact Gol.step (fun _ k => XS.isub X.here hx rfl (hb hby hd) rfl k) k
theorem Gol.lsub (X : Stand p l e R s m args below meth c T locs cells slots) (hx : p.tables.exec = Jvm.exec) (hby : c.code = code) {x y z : Int64} (hd : decode code pc = .ok (.lsub, 1)) (pc' : Nat) (hp : pc + 1 = pc') (hz : x - y = z) (k : GolF p e below Fe Qf kc ks T m pc' Ls (.long z :: rest)) : GolF p e below Fe Qf kc ks T m pc Ls (.long y :: .long x :: rest) := by
  subst hp hz
  exact Gol.step (fun _ k => XT.lsub X.here hx rfl (hb hby hd) rfl k) k
theorem Gol.imul (X : Stand p l e R s m args below meth c T locs cells slots) (hx : p.tables.exec = Jvm.exec) (hby : c.code = code) {x y z : Int32} (hd : decode code pc = .ok (.imul, 1)) (pc' : Nat) (hp : pc + 1 = pc') (hz : x * y = z) (k : GolF p e below Fe Qf kc ks T m pc' Ls (.int z :: rest)) : GolF p e below Fe Qf kc ks T m pc Ls (.int y :: .int x :: rest) := by
  subst hp hz
  exact Gol.step (fun _ k => XS.imul X.here hx rfl (hb hby hd) rfl k) k
theorem Gol.iand (X : Stand p l e R s m args below meth c T locs cells slots) (hx : p.tables.exec = Jvm.exec) (hby : c.code = code) {x y z : Int32} (hd : decode code pc = .ok (.iand, 1)) (pc' : Nat) (hp : pc + 1 = pc') (hz : x &&& y = z) (k : GolF p e below Fe Qf kc ks T m pc' Ls (.int z :: rest)) : GolF p e below Fe Qf kc ks T m pc Ls (.int y :: .int x :: rest) := by
  subst hp hz
  exact Gol.step (fun _ k => XS.iand X.here hx rfl (hb hby hd) rfl k) k
theorem Gol.land (X : Stand p l e R s m args below meth c T locs cells slots) (hx : p.tables.exec = Jvm.exec) (hby : c.code = code) {x y z : Int64} (hd : decode code pc = .ok (.land, 1)) (pc' : Nat) (hp : pc + 1 = pc') (hz : x &&& y = z) (k : GolF p e below Fe Qf kc ks T m pc' Ls (.long z :: rest)) : GolF p e below Fe Qf kc ks T m pc Ls (.long y :: .long x :: rest) := by
  subst hp hz
  exact Gol.step (fun _ k => XT.land X.here hx rfl (hb hby hd) rfl k) k
theorem Gol.ixor (X : Stand p l e R s m args below meth c T locs cells slots) (hx : p.tables.exec = Jvm.exec) (hby : c.code = code) {x y z : Int32} (hd : decode code pc = .ok (.ixor, 1)) (pc' : Nat) (hp : pc + 1 = pc') (hz : x ^^^ y = z) (k : GolF p e below Fe Qf kc ks T m pc' Ls (.int z :: rest)) : GolF p e below Fe Qf kc ks T m pc Ls (.int y :: .int x :: rest) := by
  subst hp hz
  exact Gol.step (fun _ k => XT.ixor X.here hx rfl (hb hby hd) rfl k) k
theorem Gol.iushr (X : Stand p l e R s m args below meth c T locs cells slots) (hx : p.tables.exec = Jvm.exec) (hby : c.code = code) {x y z : Int32} (hd : decode code pc = .ok (.iushr, 1)) (pc' : Nat) (hp : pc + 1 = pc') (hz : XT.ushr x y = z) (k : GolF p e below Fe Qf kc ks T m pc' Ls (.int z :: rest)) : GolF p e below Fe Qf kc ks T m pc Ls (.int y :: .int x :: rest) := by
  subst hp hz
  exact Gol.step (fun _ k => XT.iushr X.here hx rfl (hb hby hd) rfl k) k
theorem Gol.lshl (X : Stand p l e R s m args below meth c T locs cells slots) (hx : p.tables.exec = Jvm.exec) (hby : c.code = code) {x z : Int64} {y : Int32} (hd : decode code pc = .ok (.lshl, 1)) (pc' : Nat) (hp : pc + 1 = pc') (hz : x <<< (y.toInt64 &&& 63) = z) (k : GolF p e below Fe Qf kc ks T m pc' Ls (.long z :: rest)) : GolF p e below Fe Qf kc ks T m pc Ls (.int y :: .long x :: rest) := by
  subst hp hz
  exact Gol.step (fun _ k => XT.lshl X.here hx rfl (hb hby hd) rfl k) k
theorem Gol.lushr (X : Stand p l e R s m args below meth c T locs cells slots) (hx : p.tables.exec = Jvm.exec) (hby : c.code = code) {x z : Int64} {y : Int32} (hd : decode code pc = .ok (.lushr, 1)) (pc' : Nat) (hp : pc + 1 = pc') (hz : XT.ushrL x y = z) (k : GolF p e below Fe Qf kc ks T m pc' Ls (.long z :: rest)) : GolF p e below Fe Qf kc ks T m pc Ls (.int y :: .long x :: rest) := by
  subst hp hz
  exact Gol.step (fun _ k => XT.lushr X.here hx rfl (hb hby hd) rfl k) k
theorem Gol.lcmp (X : Stand p l e R s m args below meth c T locs cells slots) (hx : p.tables.exec = Jvm.exec) (hby : c.code = code) {x y : Int64} (hd : decode code pc = .ok (.lcmp, 1)) (pc' : Nat) (hp : pc + 1 = pc') (k : GolF p e below Fe Qf kc ks T m pc' Ls (.int (XT.cmpL x y) :: rest)) : GolF p e below Fe Qf kc ks T m pc Ls (.long y :: .long x :: rest) := by
  subst hp
  exact Gol.step (fun _ k => XT.lcmp X.here hx rfl (hb hby hd) rfl k) k
theorem Gol.ineg (X : Stand p l e R s m args below meth c T locs cells slots) (hx : p.tables.exec = Jvm.exec) (hby : c.code = code) {x : Int32} {z : Int32} (hd : decode code pc = .ok (.ineg, 1)) (pc' : Nat) (hp : pc + 1 = pc') (hz : -x = z) (k : GolF p e below Fe Qf kc ks T m pc' Ls (.int z :: rest)) : GolF p e below Fe Qf kc ks T m pc Ls (.int x :: rest) := by
  subst hp hz
  exact Gol.step (fun _ k => XS.ineg X.here hx rfl (hb hby hd) rfl k) k
theorem Gol.l2i (X : Stand p l e R s m args below meth c T locs cells slots) (hx : p.tables.exec = Jvm.exec) (hby : c.code = code) {x : Int64} {z : Int32} (hd : decode code pc = .ok (.l2i, 1)) (pc' : Nat) (hp : pc + 1 = pc') (hz : x.toInt32 = z) (k : GolF p e below Fe Qf kc ks T m pc' Ls (.int z :: rest)) : GolF p e below Fe Qf kc ks T m pc Ls (.long x :: rest) := by
  subst hp hz
  exact Gol.step (fun _ k => XT.l2i X.here hx rfl (hb hby hd) rfl k) k
theorem Gol.iinc (X : Stand p l e R s m args below meth c T locs cells slots) (hx : p.tables.exec = Jvm.exec) (hby : c.code = code) {k : Nat} {cst : Int} {x : Int32} (hd : decode code pc = .ok (.iinc k cst, 3)) (pc' : Nat) (hp : pc + 3 = pc') (hl : Ls[k]? = some (.val (.int x))) (hl' : storeLocals Ls k (.int (x + Int32.ofInt cst)) = some l') (k : GolF p e below Fe Qf kc ks T m pc' l' rest) : GolF p e below Fe Qf kc ks T m pc Ls rest := by
  subst hp
  exact Gol.step (fun _ k => XS.iinc X.here hx rfl (hb hby hd) hl hl' k) k
theorem Gol.dup (X : Stand p l e R s m args below meth c T locs cells slots) (hx : p.tables.exec = Jvm.exec) (hby : c.code = code) {x : Value} (hd : decode code pc = .ok (.dup, 1)) (pc' : Nat) (hp : pc + 1 = pc') (hc : x.category = 1) (k : GolF p e below Fe Qf kc ks T m pc' Ls (x :: x :: rest)) : GolF p e below Fe Qf kc ks T m pc Ls (x :: rest) := by
  subst hp
  exact Gol.step (fun _ k => XS.dup X.here hx rfl (hb hby hd) rfl hc k) k
theorem Gol.dup2 (X : Stand p l e R s m args below meth c T locs cells slots) (hx : p.tables.exec = Jvm.exec) (hby : c.code = code) {x y : Value} (hd : decode code pc = .ok (.dup2, 1)) (pc' : Nat) (hp : pc + 1 = pc') (hc : x.category = 1) (hc' : y.category = 1) (k : GolF p e below Fe Qf kc ks T m pc' Ls (x :: y :: x :: y :: rest)) : GolF p e below Fe Qf kc ks T m pc Ls (x :: y :: rest) := by
  subst hp
  exact Gol.step (fun _ k => XT.dup2 X.here hx rfl (hb hby hd) rfl hc hc' k) k
theorem Gol.goto (X : Stand p l e R s m args below meth c T locs cells slots) (hx : p.tables.exec = Jvm.exec) (hby : c.code = code) {o : Int} (hd : decode code pc = .ok (.goto o, 3)) (pc' : Nat) (hp : (pc : Int) + o = (pc' : Int)) (k : GolF p e below Fe Qf kc ks T m pc' Ls rest) : GolF p e below Fe Qf kc ks T m pc Ls rest :=
  Gol.step (fun _ k => XS.goto X.here hx rfl (pc0 := pc) rfl (hb hby hd) (by rw [hp]; exact Int.natCast_nonneg _) (by rw [hp]; rfl) k) k
theorem Gol.ifYes (X : Stand p l e R s m args below meth c T locs cells slots) (hx : p.tables.exec = Jvm.exec) (hby : c.code = code) {o : Int} {cd : ClassFile.Cond} {x : Int32} (hd : decode code pc = .ok (.ifCond cd o, 3)) (pc' : Nat) (hp : (pc : Int) + o = (pc' : Int)) (hc : ifCond.holds cd x = true) (k : GolF p e below Fe Qf kc ks T m pc' Ls rest) : GolF p e below Fe Qf kc ks T m pc Ls (.int x :: rest) :=
  Gol.step (fun _ k => XS.ifYes X.here hx rfl (pc0 := pc) rfl (hb hby hd) rfl hc (by rw [hp]; exact Int.natCast_nonneg _) (by rw [hp]; rfl) k) k
theorem Gol.icmpYes (X : Stand p l e R s m args below meth c T locs cells slots) (hx : p.tables.exec = Jvm.exec) (hby : c.code = code) {o : Int} {cd : ClassFile.Cond} {x y : Int32} (hd : decode code pc = .ok (.if_icmp cd o, 3)) (pc' : Nat) (hp : (pc : Int) + o = (pc' : Int)) (hc : if_icmp.holds cd x y = true) (k : GolF p e below Fe Qf kc ks T m pc' Ls rest) : GolF p e below Fe Qf kc ks T m pc Ls (.int y :: .int x :: rest) :=
  Gol.step (fun _ k => XS.icmpYes X.here hx rfl (pc0 := pc) rfl (hb hby hd) rfl hc (by rw [hp]; exact Int.natCast_nonneg _) (by rw [hp]; rfl) k) k
theorem Gol.ifNo (X : Stand p l e R s m args below meth c T locs cells slots) (hx : p.tables.exec = Jvm.exec) (hby : c.code = code) {o : Int} {cd : ClassFile.Cond} {x : Int32} (hd : decode code pc = .ok (.ifCond cd o, 3)) (pc' : Nat) (hp : pc + 3 = pc') (hc : ifCond.holds cd x = false) (k : GolF p e below Fe Qf kc ks T m pc' Ls rest) : GolF p e below Fe Qf kc ks T m pc Ls (.int x :: rest) := by
  subst hp
  exact Gol.step (fun _ k => XS.ifNo X.here hx rfl (hb hby hd) rfl hc k) k
theorem Gol.icmpNo (X : Stand p l e R s m args below meth c T locs cells slots) (hx : p.tables.exec = Jvm.exec) (hby : c.code = code) {o : Int} {cd : ClassFile.Cond} {x y : Int32} (hd : decode code pc = .ok (.if_icmp cd o, 3)) (pc' : Nat) (hp : pc + 3 = pc') (hc : if_icmp.holds cd x y = false) (k : GolF p e below Fe Qf kc ks T m pc' Ls rest) : GolF p e below Fe Qf kc ks T m pc Ls (.int y :: .int x :: rest) := by
  subst hp
  exact Gol.step (fun _ k => XS.icmpNo X.here hx rfl (hb hby hd) rfl hc k) k
theorem Gol.ldcInt (X : Stand p l e R s m args below meth c T locs cells slots) (hx : p.tables.exec = Jvm.exec) (hby : c.code = code) (hZ : Z.Warmed39 s.vm) {own : String} (hown : s.vm.findClass own = some m.cls) {index : Nat} {v : Int32} (hd : decode code pc = .ok (.ldc index, 2)) (pc' : Nat) (hp : pc + 2 = pc') (w : (Cond.constant own index v).before a0 Z = true) (k : GolF p e below Fe Qf kc ks T m pc' Ls (.int v :: rest)) : GolF p e below Fe Qf kc ks T m pc Ls rest := by
  subst hp
  exact Gol.step (fun _ k => X.ldcInt hx hown (mvT hZ w) (g := mkF m pc Ls rest) rfl (hb hby hd) _ k) k
theorem Gol.ldcwInt (X : Stand p l e R s m args below meth c T locs cells slots) (hx : p.tables.exec = Jvm.exec) (hby : c.code = code) (hZ : Z.Warmed39 s.vm) {own : String} (hown : s.vm.findClass own = some m.cls) {index : Nat} {v : Int32} (hd : decode code pc = .ok (.ldc_w index, 3)) (pc' : Nat) (hp : pc + 3 = pc') (w : (Cond.constant own index v).before a0 Z = true) (k : GolF p e below Fe Qf kc ks T m pc' Ls (.int v :: rest)) : GolF p e below Fe Qf kc ks T m pc Ls rest := by
  subst hp
  exact Gol.step (fun _ k => X.ldcwInt hx hown (mvT hZ w) (g := mkF m pc Ls rest) rfl (hb hby hd) _ k) k
theorem Gol.ldc2Long (X : Stand p l e R s m args below meth c T locs cells slots) (hx : p.tables.exec = Jvm.exec) (hby : c.code = code) (hZ : Z.Warmed39 s.vm) {own : String} (hown : s.vm.findClass own = some m.cls) {index : Nat} {v : Int64} (hd : decode code pc = .ok (.ldc2_w index, 3)) (pc' : Nat) (hp : pc + 3 = pc') (w : (Cond.constantLong own index v).before a0 Z = true) (k : GolF p e below Fe Qf kc ks T m pc' Ls (.long v :: rest)) : GolF p e below Fe Qf kc ks T m pc Ls rest := by
  subst hp
  exact Gol.step (fun _ k => X.ldc2Long hx hown (mvT hZ w) (g := mkF m pc Ls rest) rfl (hb hby hd) _ k) k
theorem Gol.iaload (X : Stand p l e R s m args below meth c T locs cells slots) (hx : p.tables.exec = Jvm.exec) (hby : c.code = code) (hZ : Z.Warmed39 s.vm) (eT : T.heap = h) {a : Addr} {ka : ClassId} {z j : Int32} {vs : List Value} {dv : Value} {v : Int32} (A : Arv Z h a ka .int z vs dv) (hd : decode code pc = .ok (.iaload, 1)) (pc' : Nat) (hp : pc + 1 = pc') (hj : ¬ j < 0 ∧ j < z) (hv : vs.getD j.toNatClampNeg dv = .int v) (k : GolF p e below Fe Qf kc ks T m pc' Ls (.int v :: rest)) : GolF p e below Fe Qf kc ks T m pc Ls (.int j :: .ref a :: rest) := by
  subst hp
  obtain ⟨cl, Ar, -, S, -, Hs, -⟩ := A
  have hin := inb_of S hj
  exact Gol.step (fun _ k => X.iaload hx (by rw [eT]; exact Ar.1) (State.isArrayOf_alike hZ.alike Ar.2.1) Ar.2.2 hin (Has.at Hs hin hv) (g := mkF m pc Ls (.int j :: .ref a :: rest)) rfl rfl (hb hby hd) _ k) k
theorem Gol.laload (X : Stand p l e R s m args below meth c T locs cells slots) (hx : p.tables.exec = Jvm.exec) (hby : c.code = code) (hZ : Z.Warmed39 s.vm) (eT : T.heap = h) {a : Addr} {ka : ClassId} {z j : Int32} {vs : List Value} {dv : Value} {v : Int64} (A : Arv Z h a ka .long z vs dv) (hd : decode code pc = .ok (.laload, 1)) (pc' : Nat) (hp : pc + 1 = pc') (hj : ¬ j < 0 ∧ j < z) (hv : vs.getD j.toNatClampNeg dv = .long v) (k : GolF p e below Fe Qf kc ks T m pc' Ls (.long v :: rest)) : GolF p e below Fe Qf kc ks T m pc Ls (.int j :: .ref a :: rest) := by
  subst hp
  obtain ⟨cl, Ar, -, S, -, Hs, -⟩ := A
  have hin := inb_of S hj
  exact Gol.step (fun _ k => X.laload hx (by rw [eT]; exact Ar.1) (State.isArrayOf_alike hZ.alike Ar.2.1) Ar.2.2 hin (Has.at Hs hin hv) (g := mkF m pc Ls (.int j :: .ref a :: rest)) rfl rfl (hb hby hd) _ k) k
theorem Gol.aaload (X : Stand p l e R s m args below meth c T locs cells slots) (hx : p.tables.exec = Jvm.exec) (hby : c.code = code) (hZ : Z.Warmed39 s.vm) (eT : T.heap = h) {a : Addr} {ka : ClassId} {ty : FieldType} {z j : Int32} {vs : List Value} {dv v : Value} (A : Arv Z h a ka ty z vs dv) (hd : decode code pc = .ok (.aaload, 1)) (pc' : Nat) (hp : pc + 1 = pc') (ht : ty.isReference = true) (hj : ¬ j < 0 ∧ j < z) (hv : vs.getD j.toNatClampNeg dv = v) (k : GolF p e below Fe Qf kc ks T m pc' Ls (v :: rest)) : GolF p e below Fe Qf kc ks T m pc Ls (.int j :: .ref a :: rest) := by
  subst hp
  obtain ⟨cl, Ar, -, S, -, Hs, -⟩ := A
  have hin := inb_of S hj
  exact Gol.step (fun _ k => X.aaload hx (by rw [eT]; exact Ar.1) (State.isArrayOf_alike hZ.alike Ar.2.1) ht Ar.2.2 hin (Has.at Hs hin hv) (g := mkF m pc Ls (.int j :: .ref a :: rest)) rfl rfl (hb hby hd) _ k) k
theorem Gol.alen (X : Stand p l e R s m args below meth c T locs cells slots) (hx : p.tables.exec = Jvm.exec) (hby : c.code = code) (hZ : Z.Warmed39 s.vm) (eT : T.heap = h) {a : Addr} {ka : ClassId} {ty : FieldType} {z : Int32} {vs : List Value} {dv : Value} (A : Arv Z h a ka ty z vs dv) (hd : decode code pc = .ok (.arraylength, 1)) (pc' : Nat) (hp : pc + 1 = pc') (k : GolF p e below Fe Qf kc ks T m pc' Ls (.int z :: rest)) : GolF p e below Fe Qf kc ks T m pc Ls (.ref a :: rest) := by
  subst hp
  obtain ⟨cl, Ar, -, S, M, -, -⟩ := A
  rw [← len_of S M] at k
  exact Gol.step (fun _ k => X.arraylength hx (by rw [eT]; exact Ar.1) (State.isArrayOf_alike hZ.alike Ar.2.1) (g := mkF m pc Ls (.ref a :: rest)) rfl rfl (hb hby hd) _ k) k
theorem Gol.iastore (X : Stand p l e R s m args below meth c T locs cells slots) (hx : p.tables.exec = Jvm.exec) (hby : c.code = code) (hZ : Z.Warmed39 s.vm) (eT : T.heap = h) {a : Addr} {ka : ClassId} {z j : Int32} {x : Int32} {vs : List Value} {dv : Value} (A : Arv Z h a ka .int z vs dv) (hd : decode code pc = .ok (.iastore, 1)) (pc' : Nat) (hp : pc + 1 = pc') (hj : ¬ j < 0 ∧ j < z) (i : Nat) (hi : j.toNatClampNeg = i) (hl : i < vs.length)
    (k : ∀ (T' : State) (h' : Heap), Stand p l e R s m args below meth c T' (locs ++ [⟨a, j.toNatClampNeg⟩]) cells slots → T'.heap = h' → Wr h h' a j.toNatClampNeg (.int x) → Arv Z h' a ka .int z (vs.set i (.int x)) dv → GolF p e below Fe Qf kc ks T' m pc' Ls rest) : GolF p e below Fe Qf kc ks T m pc Ls (.int x :: .int j :: .ref a :: rest) := by
  subst hp
  obtain ⟨cl, Ar, q, S, M, Hs, G⟩ := A
  have hin := inb_of S hj
  obtain ⟨T', h', X', e', W, st⟩ := stI X hx hZ eT Ar (j := j) hin (g := mkF m pc Ls (.int x :: .int j :: .ref a :: rest)) rfl rfl (hb hby hd)
  exact Gol.step st (k T' h' X' e' W (Arv.set Ar q S M Hs G rfl W i hi hl))
theorem Gol.lastore (X : Stand p l e R s m args below meth c T locs cells slots) (hx : p.tables.exec = Jvm.exec) (hby : c.code = code) (hZ : Z.Warmed39 s.vm) (eT : T.heap = h) {a : Addr} {ka : ClassId} {z j : Int32} {x : Int64} {vs : List Value} {dv : Value} (A : Arv Z h a ka .long z vs dv) (hd : decode code pc = .ok (.lastore, 1)) (pc' : Nat) (hp : pc + 1 = pc') (hj : ¬ j < 0 ∧ j < z) (i : Nat) (hi : j.toNatClampNeg = i) (hl : i < vs.length)
    (k : ∀ (T' : State) (h' : Heap), Stand p l e R s m args below meth c T' (locs ++ [⟨a, j.toNatClampNeg⟩]) cells slots → T'.heap = h' → Wr h h' a j.toNatClampNeg (.long x) → Arv Z h' a ka .long z (vs.set i (.long x)) dv → GolF p e below Fe Qf kc ks T' m pc' Ls rest) : GolF p e below Fe Qf kc ks T m pc Ls (.long x :: .int j :: .ref a :: rest) := by
  subst hp
  obtain ⟨cl, Ar, q, S, M, Hs, G⟩ := A
  have hin := inb_of S hj
  obtain ⟨T', h', X', e', W, st⟩ := stJ X hx hZ eT Ar (j := j) hin (g := mkF m pc Ls (.long x :: .int j :: .ref a :: rest)) rfl rfl (hb hby hd)
  exact Gol.step st (k T' h' X' e' W (Arv.set Ar q S M Hs G rfl W i hi hl))
theorem Gol.newarr (X : Stand p l e R s m args below meth c T locs cells slots) (hx : p.tables.exec = Jvm.exec) (hby : c.code = code) (hZ : Z.Warmed39 s.vm) {aty : ArrayType} (w : (Cond.arrayClass (newarray.typeOf aty)).before a0 Z = true) (eT : T.heap = h) {n : Int32} (cap : Nat) (hd : decode code pc = .ok (.newarray aty, 2)) (pc' : Nat) (hp : pc + 2 = pc') (hn : ¬ n < 0) (hcap : n.toNatClampNeg ≤ cap) (hb8 : cap * 8 ≤ 536870912) (hc : cells + 1 ≤ R.cells) (hl : slots + cap ≤ R.slots)
    (k : ∀ (T' : State) (h' : Heap) (ka : ClassId) (b : Addr), b = h.size → Stand p l e R s m args below meth c T' locs (cells + 1) (slots + cap) → T'.heap = h' → Ext h h' → Arv Z h' b ka (newarray.typeOf aty) n [] (defaultValue (newarray.typeOf aty)) → GolF p e below Fe Qf kc ks T' m pc' Ls (.ref b :: rest)) : GolF p e below Fe Qf kc ks T m pc Ls (.int n :: rest) := by
  subst hp
  obtain ⟨T', h', ka, X', e', E, A, st⟩ := newP X hx hZ w eT (g := mkF m pc Ls (.int n :: rest)) rfl (hb hby hd) rfl hn (cap := cap) hcap hb8 hc hl
  exact Gol.step st (k T' h' ka _ rfl X' e' E (Arv.new A hn))
theorem Gol.getF (X : Stand p l e R s m args below meth c T locs cells slots) (hx : p.tables.exec = Jvm.exec) (hby : c.code = code) (hZ : Z.Warmed39 s.vm) {own : String} (hown : s.vm.findClass own = some m.cls) {R0 O n d host : String} {index : Nat} (w : (Cond.fieldLink own index R0 n d).before a0 Z = true ∨ (Cond.fieldLinkNest own index R0 n d host).before a0 Z = true) (via : Via Z R0 O n d) (eT : T.heap = h) {a : Addr} {v : Value} (F : Fld Z h a O n d v) (hd : decode code pc = .ok (.getfield index, 3)) (pc' : Nat) (hp : pc + 3 = pc')
    (k : ∀ T' : State, Stand p l e R s m args below meth c T' locs cells slots → T'.heap = h → GolF p e below Fe Qf kc ks T' m pc' Ls (v :: rest)) : GolF p e below Fe Qf kc ks T m pc Ls (.ref a :: rest) := by
  subst hp
  obtain ⟨T', X', e', st⟩ := Jvm.RoadKit.getF X hx hZ hown (host := host) w via eT F (g := mkF m pc Ls (.ref a :: rest)) rfl rfl (hb hby hd)
  exact Gol.step st (k T' X' e')
theorem Gol.putF (X : Stand p l e R s m args below meth c T locs cells slots) (hx : p.tables.exec = Jvm.exec) (hby : c.code = code) (hZ : Z.Warmed39 s.vm) {own : String} (hown : s.vm.findClass own = some m.cls) {R0 O n d host : String} {index : Nat} (w : (Cond.fieldLink own index R0 n d).before a0 Z = true ∨ (Cond.fieldLinkNest own index R0 n d host).before a0 Z = true) (via : Via Z R0 O n d) (eT : T.heap = h) {C : String} {kk : Nat} {ty : FieldType} {a : Addr} {v old : Value} (F : Fld Z h a O n d old) (E : Exa Z h a C) (L : (Cond.lays C O n d).before a0 Z = true ∨ ((Cond.laysFinal C O n d).before a0 Z = true ∧ own = O ∧ meth.name = "<init>")) (wi : (Cond.instantiable C kk).before a0 Z = true) (hty : parseFieldDescriptor d = some ty) (hn : narrow ty v = v) (hf : fits ty v = true) (hd : decode code pc = .ok (.putfield index, 3)) (pc' : Nat) (hp : pc + 3 = pc')
    (k : ∀ (T' : State) (h' : Heap), Stand p l e R s m args below meth c T' (locs ++ [⟨a, slotOf Z O n d⟩]) cells slots → T'.heap = h' → Wr h h' a (slotOf Z O n d) v → GolF p e below Fe Qf kc ks T' m pc' Ls rest) : GolF p e below Fe Qf kc ks T m pc Ls (v :: .ref a :: rest) := by
  subst hp
  obtain ⟨T', h', X', e', W, st⟩ := Jvm.RoadKit.putF X hx hZ hown (host := host) w via eT F E L wi hty hn hf (g := mkF m pc Ls (v :: .ref a :: rest)) rfl rfl (hb hby hd)
  exact Gol.step st (k T' h' X' e' W)
theorem Gol.putFN (X : Stand p l e R s m args below meth c T locs cells slots) (hx : p.tables.exec = Jvm.exec) (hby : c.code = code) (hZ : Z.Warmed39 s.vm) {own : String} (hown : s.vm.findClass own = some m.cls) {R0 O n d : String} {index : Nat} (w : (Cond.fieldLink own index R0 n d).before a0 Z = true) (via : Via Z R0 O n d) (eT : T.heap = h) {C : String} {kk : Nat} {ty : FieldType} {a : Addr} {v v' old : Value} (F : Fld Z h a O n d old) (E : Exa Z h a C) (L : (Cond.lays C O n d).before a0 Z = true ∨ ((Cond.laysFinal C O n d).before a0 Z = true ∧ own = O ∧ meth.name = "<init>")) (wi : (Cond.instantiable C kk).before a0 Z = true) (hty : parseFieldDescriptor d = some ty) (hn : narrow ty v = v') (hf : fits ty v' = true) (hd : decode code pc = .ok (.putfield index, 3)) (pc' : Nat) (hp : pc + 3 = pc')
    (k : ∀ (T' : State) (h' : Heap), Stand p l e R s m args below meth c T' (locs ++ [⟨a, slotOf Z O n d⟩]) cells slots → T'.heap = h' → Wr h h' a (slotOf Z O n d) v' → GolF p e below Fe Qf kc ks T' m pc' Ls rest) : GolF p e below Fe Qf kc ks T m pc Ls (v :: .ref a :: rest) := by
  subst hp
  obtain ⟨T', h', X', e', W, st⟩ := Jvm.RoadKit.putFN X hx hZ hown w via eT F E L wi hty hn hf (g := mkF m pc Ls (v :: .ref a :: rest)) rfl rfl (hb hby hd)
  exact Gol.step st (k T' h' X' e' W)
theorem Gol.newO (X : Stand p l e R s m args below meth c T locs cells slots) (hx : p.tables.exec = Jvm.exec) (hby : c.code = code) (hZ : Z.Warmed39 s.vm) {own : String} (hown : s.vm.findClass own = some m.cls) {C : String} {index n : Nat} (w : (Cond.classLink own index C).before a0 Z = true) (wi : (Cond.instantiable C n).before a0 Z = true) (wz : (Cond.initialized C).before a0 Z = true) (eT : T.heap = h) (hd : decode code pc = .ok (.new index, 3)) (pc' : Nat) (hp : pc + 3 = pc') (hc : cells + 1 ≤ R.cells) (hl : slots + n ≤ R.slots)
    (k : ∀ (T' : State) (h' : Heap) (b : Addr), b = h.size → Stand p l e R s m args below meth c T' locs (cells + 1) (slots + n) → T'.heap = h' → Ext h h' → Exa Z h' b C → (∀ {O nm d : String} {ty : FieldType}, Laid Z a0 C O nm d → parseFieldDescriptor d = some ty → Fld Z h' b O nm d (defaultValue ty)) → GolF p e below Fe Qf kc ks T' m pc' Ls (.ref b :: rest)) : GolF p e below Fe Qf kc ks T m pc Ls rest := by
  subst hp
  obtain ⟨T', h', X', e', E, A, D, -, st⟩ := Jvm.RoadKit.newO X hx hZ hown w wi wz eT (g := mkF m pc Ls rest) rfl (hb hby hd) hc hl
  exact Gol.step st (k T' h' _ rfl X' e' E A D)
theorem Gol.initO (X : Stand p l e R s m args below meth c T locs cells slots) (hx : p.tables.exec = Jvm.exec) (hby : c.code = code) (hZ : Z.Warmed39 s.vm) {own : String} (hown : s.vm.findClass own = some m.cls) {index : Nat} (w1 : (Cond.methodLink own index Lib.objectInit).before a0 Z = true) (w2 : (Cond.instanceMethod Lib.objectInit).before a0 Z = true) (w3 : (Cond.code Lib.objectInit ⟨#[0xb1]⟩ 1 none).before a0 Z = true) (eT : T.heap = h) (W : Nat) {a : Addr} (hd : decode code pc = .ok (.invokespecial index, 3)) (pc' : Nat) (hp : pc + 3 = pc') (hsz : Ls.size = c.maxLocals) (hf : 1 ≤ R.frames) (hW : (rest.map fun v => v.category).sum ≤ W) (hl : W + 12 ≤ R.locals)
    (k : ∀ T' : State, Stand p l e R s m args below meth c T' locs cells slots → T'.heap = h → GolF p e below Fe Qf kc ks T' m pc' Ls rest) : GolF p e below Fe Qf kc ks T m pc Ls (.ref a :: rest) := by
  subst hp
  obtain ⟨T', X', e', st⟩ := Jvm.RoadKit.initO X hx hZ hown w1 w2 w3 eT (g := mkF m pc Ls (.ref a :: rest)) rfl hsz rfl (hb hby hd) hf (W := W) (by show 2 * 0 + _ ≤ _; rw [Nat.mul_zero, Nat.zero_add]; exact hW) hl
  exact Gol.step st (k T' X' e')
theorem Gol.callS (X : Stand p l e R s m args below meth c T locs cells slots) (hx : p.tables.exec = Jvm.exec) (hby : c.code = code) (hZ : Z.Warmed39 s.vm) {own : String} (hown : s.vm.findClass own = some m.cls) {index : Nat} {y : MethodName} {bytes : ByteArray} {maxL : Nat} {ret : Option FieldType} {rm : Room} {Q : Option Value → Heap → List Loc → Prop} (W : Nat) (argsL : List Value) (wl : (Cond.methodLink own index y).before a0 Z = true) (ws : (Cond.static y).before a0 Z = true) (wz : (Cond.initialized y.cls).before a0 Z = true) (wc : (Cond.code y bytes maxL ret).before a0 Z = true) (hy : y.cls ≠ "java/lang/invoke/MethodHandle" ∧ y.cls ≠ "java/lang/invoke/VarHandle") (hM : MetFree l y (head1 [Cond.code y bytes maxL ret] rm) (fun aa U => aa = argsL.toArray ∧ Z.Warmed39 U.vm ∧ U.heap = h) (fun _ _ _ _ _ => True) (fun _ U o U' => ∃ v L, o = .returned v ∧ Q v U'.heap L ∧ FrameEnd U o U' L rm.cells rm.slots)) (hf : rm.frames + 1 ≤ R.frames) (hl : W + (maxL + 11) + rm.locals ≤ R.locals) (eT : T.heap = h) {st : List Value} (hsz : Ls.size = c.maxLocals) (hW : (rest.map fun v => v.category).sum ≤ W) (hc : cells + rm.cells ≤ R.cells) (hs : slots + rm.slots ≤ R.slots) (hlen : ∀ sig, parseMethodDescriptor y.desc = some sig → argsL.length = sig.parameters.length) (hst : st = argsL.reverse ++ rest) (hd : decode code pc = .ok (.invokestatic index, 3)) (pc' : Nat) (hp : pc + 3 = pc')
    (k : ∀ (T' : State) (v : Option Value) (L : List Loc), Stand p l e R s m args below meth c T' (locs ++ L) (cells + rm.cells) (slots + rm.slots) → Q v T'.heap L → GolF p e below Fe Qf kc ks T' m pc' Ls (v.toList ++ rest)) : GolF p e below Fe Qf kc ks T m pc Ls st := by
  subst hp
  obtain ⟨v, _, ⟨T', L1, k1, n1⟩, -, X', ⟨Lc, hQ, l1, y1, z1⟩, st1⟩ := Jvm.LawKit.callS X hx hown (mvT hZ wl) (mvT hZ ws) (mvT hZ wz) (mvT hZ wc) hy (backOf (W := W) hM hZ wc wz hf hl) (g := mkF m pc Ls st) rfl hsz hlen hst (by show 2 * 0 + _ ≤ _; rw [Nat.mul_zero, Nat.zero_add]; exact hW) (hb hby hd) (fun _ _ => ⟨rfl, eT, hc, hs⟩)
  dsimp only [Pt.U, Pt.locs, Pt.cells, Pt.slots] at X' l1 y1 z1 st1 hQ
  subst l1 y1 z1
  exact Gol.step st1 (k T' v Lc X' hQ)
theorem Gol.callI (X : Stand p l e R s m args below meth c T locs cells slots) (hx : p.tables.exec = Jvm.exec) (hby : c.code = code) (hZ : Z.Warmed39 s.vm) {own : String} (hown : s.vm.findClass own = some m.cls) {index : Nat} {y : MethodName} {bytes : ByteArray} {maxL : Nat} {ret : Option FieldType} {rm : Room} {Q : Option Value → Heap → List Loc → Prop} (W : Nat) (argsL : List Value) {a : Addr} (wl : (Cond.methodLink own index y).before a0 Z = true) (wi : (Cond.instanceMethod y).before a0 Z = true) (wz : (Cond.initialized y.cls).before a0 Z = true) (hrt : ret = none) (wc : (Cond.code y bytes maxL ret).before a0 Z = true) (hn : y.name = "<init>") (hy : y.cls ≠ "java/lang/invoke/MethodHandle" ∧ y.cls ≠ "java/lang/invoke/VarHandle") (hM : MetFree l y (head1 [Cond.code y bytes maxL ret] rm) (fun aa U => aa = (.ref a :: argsL).toArray ∧ Z.Warmed39 U.vm ∧ U.heap = h) (fun _ _ _ _ _ => True) (fun _ U o U' => ∃ v L, o = .returned v ∧ Q v U'.heap L ∧ FrameEnd U o U' L rm.cells rm.slots)) (hf : rm.frames + 1 ≤ R.frames) (hl : W + (maxL + 11) + rm.locals ≤ R.locals) (eT : T.heap = h) {st : List Value} (hsz : Ls.size = c.maxLocals) (hW : (rest.map fun v => v.category).sum ≤ W) (hc : cells + rm.cells ≤ R.cells) (hs : slots + rm.slots ≤ R.slots) (hlen : ∀ sig, parseMethodDescriptor y.desc = some sig → argsL.length = sig.parameters.length) (hst : st = argsL.reverse ++ .ref a :: rest) (hd : decode code pc = .ok (.invokespecial index, 3)) (pc' : Nat) (hp : pc + 3 = pc')
    (k : ∀ (T' : State) (v : Option Value) (L : List Loc), Stand p l e R s m args below meth c T' (locs ++ L) (cells + rm.cells) (slots + rm.slots) → Q v T'.heap L → GolF p e below Fe Qf kc ks T' m pc' Ls (v.toList ++ rest)) : GolF p e below Fe Qf kc ks T m pc Ls st := by
  subst hp hrt
  obtain ⟨v, _, ⟨T', L1, k1, n1⟩, -, X', ⟨Lc, hQ, l1, y1, z1⟩, st1⟩ := X.specialBack hx hn hown (mvT hZ wl) (mvT hZ wi) (mvT hZ wc) hy (backOf (W := W) hM hZ wc wz hf hl) (g := mkF m pc Ls st) rfl hsz (Steps.refl _) (a := a) hlen hst (by show 2 * 0 + _ ≤ _; rw [Nat.mul_zero, Nat.zero_add]; exact hW) (hb hby hd) (fun _ _ => ⟨rfl, eT, hc, hs⟩)
  dsimp only [Pt.U, Pt.locs, Pt.cells, Pt.slots] at X' l1 y1 z1 st1 hQ
  subst l1 y1 z1
  exact Gol.step (fun _ k => st1.trans k) (k T' v Lc X' hQ)
theorem Gol.callV (X : Stand p l e R s m args below meth c T locs cells slots) (hx : p.tables.exec = Jvm.exec) (hby : c.code = code) (hZ : Z.Warmed39 s.vm) {own : String} (hown : s.vm.findClass own = some m.cls) {index : Nat} {y z : MethodName} {C : String} {bytes : ByteArray} {maxL : Nat} {ret : Option FieldType} {rm : Room} {Q : Option Value → Heap → List Loc → Prop} (W : Nat) (argsL : List Value) {a : Addr} (wl : (Cond.methodLink own index y).before a0 Z = true) (wd : (Cond.declares y).before a0 Z = true) (nf : NotFace s y) (wse : (Cond.selects C y z).before a0 Z = true) (wi : (Cond.instanceMethod z).before a0 Z = true) (wz : (Cond.initialized z.cls).before a0 Z = true) (wc : (Cond.code z bytes maxL ret).before a0 Z = true) (hy : y.cls ≠ "java/lang/invoke/MethodHandle" ∧ y.cls ≠ "java/lang/invoke/VarHandle") (E : Exa Z h a C) (hM : MetFree l z (head1 [Cond.code z bytes maxL ret] rm) (fun aa U => aa = (.ref a :: argsL).toArray ∧ Z.Warmed39 U.vm ∧ U.heap = h) (fun _ _ _ _ _ => True) (fun _ U o U' => ∃ v L, o = .returned v ∧ Q v U'.heap L ∧ FrameEnd U o U' L rm.cells rm.slots)) (hf : rm.frames + 1 ≤ R.frames) (hl : W + (maxL + 11) + rm.locals ≤ R.locals) (eT : T.heap = h) {st : List Value} (hsz : Ls.size = c.maxLocals) (hW : (rest.map fun v => v.category).sum ≤ W) (hc : cells + rm.cells ≤ R.cells) (hs : slots + rm.slots ≤ R.slots) (hlen : ∀ sig, parseMethodDescriptor y.desc = some sig → argsL.length = sig.parameters.length) (hst : st = argsL.reverse ++ .ref a :: rest) (hd : decode code pc = .ok (.invokevirtual index, 3)) (pc' : Nat) (hp : pc + 3 = pc')
    (k : ∀ (T' : State) (v : Option Value) (L : List Loc), Stand p l e R s m args below meth c T' (locs ++ L) (cells + rm.cells) (slots + rm.slots) → Q v T'.heap L → GolF p e below Fe Qf kc ks T' m pc' Ls (v.toList ++ rest)) : GolF p e below Fe Qf kc ks T m pc Ls st := by
  subst hp
  obtain ⟨cq, kq, qa, qb, qc⟩ := isOf hZ eT E
  obtain ⟨v, _, ⟨T', L1, k1, n1⟩, -, X', ⟨Lc, hQ, l1, y1, z1⟩, st1⟩ := X.virtualBack hx hown (mvT hZ wl) (mvT hZ wd) nf (mvT hZ wse) (mvT hZ wi) hy (backOf (W := W) hM hZ wc wz hf hl) qa qc (g := mkF m pc Ls st) rfl hsz (Steps.refl _) hlen hst (by show 2 * 0 + _ ≤ _; rw [Nat.mul_zero, Nat.zero_add]; exact hW) (hb hby hd) (fun _ _ => ⟨rfl, eT, hc, hs⟩)
  dsimp only [Pt.U, Pt.locs, Pt.cells, Pt.slots] at X' l1 y1 z1 st1 hQ
  subst l1 y1 z1
  exact Gol.step (fun _ k => st1.trans k) (k T' v Lc X' hQ)
theorem Gol.retN (X : Stand p l e R s m args below meth c T locs cells slots) (hx : p.tables.exec = Jvm.exec) (hby : c.code = code) {z : Int32} {t : FieldType} (hret : meth.sig.returnType = some t) (ht : t = .boolean ∨ t = .byte ∨ t = .char ∨ t = .short) (hlk : meth.locks = false) (hd : decode code pc = .ok (.ireturn, 1)) (eT : T.heap = h) (hq : Qf (some (.int (nar t z))) h locs) (hc : cells ≤ kc) (hs : slots ≤ ks) : GolF p e below (FrameEnd s) Qf kc ks T m pc Ls (.int z :: rest) :=
  Gol.fin X (fun h => by rw [hret] at h; cases h) hlk eT hq hc hs fun fs hr => Jvm.RoadKit.retN X hx hret ht (hb hby hd) hr
theorem Gol.retI (X : Stand p l e R s m args below meth c T locs cells slots) (hx : p.tables.exec = Jvm.exec) (hby : c.code = code) {z : Int32} (hret : meth.sig.returnType = some .int) (hlk : meth.locks = false) (hd : decode code pc = .ok (.ireturn, 1)) (eT : T.heap = h) (hq : Qf (some (.int z)) h locs) (hc : cells ≤ kc) (hs : slots ≤ ks) : GolF p e below (FrameEnd s) Qf kc ks T m pc Ls (.int z :: rest) :=
  Gol.fin X (fun h => by rw [hret] at h; cases h) hlk eT hq hc hs fun fs hr => Jvm.RoadKit.retOut X hx hret rfl (Or.inl ⟨rfl, Or.inl rfl, _, rfl⟩) (hb hby hd) hr
theorem Gol.ret0 (X : Stand p l e R s m args below meth c T locs cells slots) (hx : p.tables.exec = Jvm.exec) (hby : c.code = code) (hret : meth.sig.returnType = none) (hlk : meth.locks = false) (hd : decode code pc = .ok (.return_, 1)) (eT : T.heap = h) (hq : Qf none h locs) (hc : cells ≤ kc) (hs : slots ≤ ks) : GolF p e below (FrameEnd s) Qf kc ks T m pc Ls [] :=
  Gol.fin X (fun _ => rfl) hlk eT hq hc hs fun fs hr => X.returnOut hx hret (hb hby hd) hr
theorem teqL {x y : Int64} (h : x = y) : ifCond.holds .eq (XT.cmpL x y) = true ∧ ifCond.holds .ne (XT.cmpL x y) = false := by
  subst h; simp [XT.cmpL, Int64.lt_irrefl, ifCond.holds]
theorem feqL {x y : Int64} (h : ¬ x = y) : ifCond.holds .eq (XT.cmpL x y) = false ∧ ifCond.holds .ne (XT.cmpL x y) = true := by
  by_cases h1 : y < x <;> simp [XT.cmpL, h, h1, ifCond.holds]
end Own
end Jvm.RoadKit
namespace Jvm.RoadKit
open Sem ClassFile Op Lib Jvm.Stand Jvm.Free Jvm.LawKit Jvm.FP Jvm.Free.Fl
section OwnD
variable {p : Program} {l : Launch} {e : Env} {R : Room} {s : State} {m : MethodId} {args : Array Value} {below : List Frame} {meth : Method} {c : Code} {T : State} {locs : List Loc} {cells slots : Nat} {Fe : Outcome → State → List Loc → Nat → Nat → Prop} {Qf : Option Value → Heap → List Loc → Prop} {kc ks : Nat} {code : ByteArray} {pc pc' : Nat} {Ls l' : Array Slot} {rest : List Value} {Z : State} {a0 : Array Value} {h : Heap}
theorem Gol.dloadN (X : Stand p l e R s m args below meth c T locs cells slots) (hx : p.tables.exec = Jvm.exec) (hby : c.code = code) {k : Fin 4} {v : UInt64} (hd : decode code pc = .ok (.dload_n k, 1)) (pc' : Nat) (hp : pc + 1 = pc') (hl : Ls[k.val]? = some (.val (.double v))) (k : GolF p e below Fe Qf kc ks T m pc' Ls (.double v :: rest)) : GolF p e below Fe Qf kc ks T m pc Ls rest := by
  subst hp
  exact Gol.step (fun _ k => XS.dloadN X.here hx rfl (hb hby hd) hl k) k
theorem Gol.dload (X : Stand p l e R s m args below meth c T locs cells slots) (hx : p.tables.exec = Jvm.exec) (hby : c.code = code) {k : Nat} {v : UInt64} (hd : decode code pc = .ok (.dload k, 2)) (pc' : Nat) (hp : pc + 2 = pc') (hl : Ls[k]? = some (.val (.double v))) (k : GolF p e below Fe Qf kc ks T m pc' Ls (.double v :: rest)) : GolF p e below Fe Qf kc ks T m pc Ls rest := by
  subst hp
  exact Gol.step (fun _ k => XS.dload X.here hx rfl (hb hby hd) hl k) k
theorem Gol.dstoreN (X : Stand p l e R s m args below meth c T locs cells slots) (hx : p.tables.exec = Jvm.exec) (hby : c.code = code) {k : Fin 4} {x : UInt64} (hd : decode code pc = .ok (.dstore_n k, 1)) (pc' : Nat) (hp : pc + 1 = pc') (hl : storeLocals Ls k.val (.double x) = some l') (k : GolF p e below Fe Qf kc ks T m pc' l' rest) : GolF p e below Fe Qf kc ks T m pc Ls (.double x :: rest) := by
  subst hp
  exact Gol.step (fun _ k => XS.dstoreN X.here hx rfl (hb hby hd) rfl hl k) k
theorem Gol.dstore (X : Stand p l e R s m args below meth c T locs cells slots) (hx : p.tables.exec = Jvm.exec) (hby : c.code = code) {k : Nat} {x : UInt64} (hd : decode code pc = .ok (.dstore k, 2)) (pc' : Nat) (hp : pc + 2 = pc') (hl : storeLocals Ls k (.double x) = some l') (k : GolF p e below Fe Qf kc ks T m pc' l' rest) : GolF p e below Fe Qf kc ks T m pc Ls (.double x :: rest) := by
  subst hp
  exact Gol.step (fun _ k => XS.dstore X.here hx rfl (hb hby hd) rfl hl k) k
theorem Gol.dconst0 (X : Stand p l e R s m args below meth c T locs cells slots) (hx : p.tables.exec = Jvm.exec) (hby : c.code = code) {v : UInt64} (hd : decode code pc = .ok (.dconst 0, 1)) (pc' : Nat) (hp : pc + 1 = pc') (hv : FP.dconst0 = v) (k : GolF p e below Fe Qf kc ks T m pc' Ls (.double v :: rest)) : GolF p e below Fe Qf kc ks T m pc Ls rest := by
  subst hp
  exact Gol.step (fun _ k => XS.dconst0 X.here hx rfl (hb hby hd) hv k) k
theorem Gol.dconst1 (X : Stand p l e R s m args below meth c T locs cells slots) (hx : p.tables.exec = Jvm.exec) (hby : c.code = code) {v : UInt64} (hd : decode code pc = .ok (.dconst 1, 1)) (pc' : Nat) (hp : pc + 1 = pc') (hv : FP.dconst1 = v) (k : GolF p e below Fe Qf kc ks T m pc' Ls (.double v :: rest)) : GolF p e below Fe Qf kc ks T m pc Ls rest := by
  subst hp
  exact Gol.step (fun _ k => XS.dconst1 X.here hx rfl (hb hby hd) hv k) k
theorem Gol.i2d (X : Stand p l e R s m args below meth c T locs cells slots) (hx : p.tables.exec = Jvm.exec) (hby : c.code = code) {x : Int32} {v : UInt64} (hd : decode code pc = .ok (.i2d, 1)) (pc' : Nat) (hp : pc + 1 = pc') (hv : FP.i2d x = v) (k : GolF p e below Fe Qf kc ks T m pc' Ls (.double v :: rest)) : GolF p e below Fe Qf kc ks T m pc Ls (.int x :: rest) := by
  subst hp
  exact Gol.step (fun _ k => XS.i2dS X.here hx rfl (hb hby hd) rfl hv k) k
theorem Gol.dneg (X : Stand p l e R s m args below meth c T locs cells slots) (hx : p.tables.exec = Jvm.exec) (hby : c.code = code) {x v : UInt64} (hd : decode code pc = .ok (.dneg, 1)) (pc' : Nat) (hp : pc + 1 = pc') (hv : FP.dneg x = v) (k : GolF p e below Fe Qf kc ks T m pc' Ls (.double v :: rest)) : GolF p e below Fe Qf kc ks T m pc Ls (.double x :: rest) := by
  subst hp
  exact Gol.step (fun _ k => XS.dnegS X.here hx rfl (hb hby hd) rfl hv k) k
theorem Gol.dcmp (X : Stand p l e R s m args below meth c T locs cells slots) (hx : p.tables.exec = Jvm.exec) (hby : c.code = code) {o : CmpOp} {x y : UInt64} {v : Int32} (hd : decode code pc = .ok (.dcmp o, 1)) (pc' : Nat) (hp : pc + 1 = pc') (hv : cmpValue (FP.dcmp x y) o = v) (k : GolF p e below Fe Qf kc ks T m pc' Ls (.int v :: rest)) : GolF p e below Fe Qf kc ks T m pc Ls (.double y :: .double x :: rest) := by
  subst hp
  exact Gol.step (fun _ k => XS.dcmpS X.here hx rfl (hb hby hd) rfl hv k) k
theorem Gol.dadd (X : Stand p l e R s m args below meth c T locs cells slots) (hx : p.tables.exec = Jvm.exec) (hby : c.code = code) {x y v : UInt64} (hd : decode code pc = .ok (.dadd, 1)) (pc' : Nat) (hp : pc + 1 = pc') (hn : NoNaN64 v) (hv : FP.dadd x y = v) (k : GolF p e below Fe Qf kc ks T m pc' Ls (.double v :: rest)) : GolF p e below Fe Qf kc ks T m pc Ls (.double y :: .double x :: rest) := by
  subst hp
  exact Gol.step (fun _ k => XS.daddS X.here hx rfl (hb hby hd) rfl (hv ▸ hn) hv k) k
theorem Gol.dsub (X : Stand p l e R s m args below meth c T locs cells slots) (hx : p.tables.exec = Jvm.exec) (hby : c.code = code) {x y v : UInt64} (hd : decode code pc = .ok (.dsub, 1)) (pc' : Nat) (hp : pc + 1 = pc') (hn : NoNaN64 v) (hv : FP.dsub x y = v) (k : GolF p e below Fe Qf kc ks T m pc' Ls (.double v :: rest)) : GolF p e below Fe Qf kc ks T m pc Ls (.double y :: .double x :: rest) := by
  subst hp
  exact Gol.step (fun _ k => XS.dsubS X.here hx rfl (hb hby hd) rfl (hv ▸ hn) hv k) k
theorem Gol.dmul (X : Stand p l e R s m args below meth c T locs cells slots) (hx : p.tables.exec = Jvm.exec) (hby : c.code = code) {x y v : UInt64} (hd : decode code pc = .ok (.dmul, 1)) (pc' : Nat) (hp : pc + 1 = pc') (hn : NoNaN64 v) (hv : FP.dmul x y = v) (k : GolF p e below Fe Qf kc ks T m pc' Ls (.double v :: rest)) : GolF p e below Fe Qf kc ks T m pc Ls (.double y :: .double x :: rest) := by
  subst hp
  exact Gol.step (fun _ k => XS.dmulS X.here hx rfl (hb hby hd) rfl (hv ▸ hn) hv k) k
theorem Gol.ddiv (X : Stand p l e R s m args below meth c T locs cells slots) (hx : p.tables.exec = Jvm.exec) (hby : c.code = code) {x y v : UInt64} (hd : decode code pc = .ok (.ddiv, 1)) (pc' : Nat) (hp : pc + 1 = pc') (hn : NoNaN64 v) (hv : FP.ddiv x y = v) (k : GolF p e below Fe Qf kc ks T m pc' Ls (.double v :: rest)) : GolF p e below Fe Qf kc ks T m pc Ls (.double y :: .double x :: rest) := by
  subst hp
  exact Gol.step (fun _ k => XS.ddivS X.here hx rfl (hb hby hd) rfl (hv ▸ hn) hv k) k
theorem Gol.ldc2Double (X : Stand p l e R s m args below meth c T locs cells slots) (hx : p.tables.exec = Jvm.exec) (hby : c.code = code) (hZ : Z.Warmed39 s.vm) {own : String} (hown : s.vm.findClass own = some m.cls) {index : Nat} {v : UInt64} (hd : decode code pc = .ok (.ldc2_w index, 3)) (pc' : Nat) (hp : pc + 3 = pc') (w : (Cond.constantDouble own index v).before a0 Z = true) (k : GolF p e below Fe Qf kc ks T m pc' Ls (.double v :: rest)) : GolF p e below Fe Qf kc ks T m pc Ls rest := by
  subst hp
  exact Gol.step (fun _ k => X.ldc2DoubleC hx hown (mvT hZ w) (g := mkF m pc Ls rest) rfl (hb hby hd) _ k) k
theorem Gol.daload (X : Stand p l e R s m args below meth c T locs cells slots) (hx : p.tables.exec = Jvm.exec) (hby : c.code = code) (hZ : Z.Warmed39 s.vm) (eT : T.heap = h) {a : Addr} {ka : ClassId} {z j : Int32} {vs : List Value} {dv : Value} {v : UInt64} (A : Arv Z h a ka .double z vs dv) (hd : decode code pc = .ok (.daload, 1)) (pc' : Nat) (hp : pc + 1 = pc') (hj : ¬ j < 0 ∧ j < z) (hv : vs.getD j.toNatClampNeg dv = .double v) (k : GolF p e below Fe Qf kc ks T m pc' Ls (.double v :: rest)) : GolF p e below Fe Qf kc ks T m pc Ls (.int j :: .ref a :: rest) := by
  subst hp
  obtain ⟨cl, Ar, -, S, -, Hs, -⟩ := A
  have hin := inb_of S hj
  exact Gol.step (fun _ k => X.daload hx (by rw [eT]; exact Ar.1) (State.isArrayOf_alike hZ.alike Ar.2.1) Ar.2.2 hin (Has.at Hs hin hv) (g := mkF m pc Ls (.int j :: .ref a :: rest)) rfl rfl (hb hby hd) _ k) k
theorem Gol.dastore (X : Stand p l e R s m args below meth c T locs cells slots) (hx : p.tables.exec = Jvm.exec) (hby : c.code = code) (hZ : Z.Warmed39 s.vm) (eT : T.heap = h) {a : Addr} {ka : ClassId} {z j : Int32} {x : UInt64} {vs : List Value} {dv : Value} (A : Arv Z h a ka .double z vs dv) (hd : decode code pc = .ok (.dastore, 1)) (pc' : Nat) (hp : pc + 1 = pc') (hj : ¬ j < 0 ∧ j < z) (i : Nat) (hi : j.toNatClampNeg = i) (hl : i < vs.length)
    (k : ∀ (T' : State) (h' : Heap), Stand p l e R s m args below meth c T' (locs ++ [⟨a, j.toNatClampNeg⟩]) cells slots → T'.heap = h' → Wr h h' a j.toNatClampNeg (.double x) → Arv Z h' a ka .double z (vs.set i (.double x)) dv → GolF p e below Fe Qf kc ks T' m pc' Ls rest) : GolF p e below Fe Qf kc ks T m pc Ls (.double x :: .int j :: .ref a :: rest) := by
  subst hp
  obtain ⟨cl, Ar, q, S, M, Hs, G⟩ := A
  have hin := inb_of S hj
  obtain ⟨T', h', X', e', W, st⟩ := stD X hx hZ eT Ar (j := j) hin (g := mkF m pc Ls (.double x :: .int j :: .ref a :: rest)) rfl rfl (hb hby hd)
  exact Gol.step st (k T' h' X' e' W (Arv.set Ar q S M Hs G rfl W i hi hl))
theorem Gol.newrefA (X : Stand p l e R s m args below meth c T locs cells slots) (hx : p.tables.exec = Jvm.exec) (hby : c.code = code) (hZ : Z.Warmed39 s.vm) {own : String} (hown : s.vm.findClass own = some m.cls) {C : String} {ty : FieldType} {index : Nat} (hC : (FieldType.array ty).toString = C) (w1 : (Cond.classLink own index C).before a0 Z = true) (w2 : (Cond.arrayOver (.array ty)).before a0 Z = true) (eT : T.heap = h) {n : Int32} (cap : Nat) (hd : decode code pc = .ok (.anewarray index, 3)) (pc' : Nat) (hp : pc + 3 = pc') (hn : ¬ n < 0) (hcap : n.toNatClampNeg ≤ cap) (hb8 : cap * 8 ≤ 536870912) (hc : cells + 1 ≤ R.cells) (hl : slots + cap ≤ R.slots)
    (k : ∀ (T' : State) (h' : Heap) (ka : ClassId) (b : Addr), b = h.size → Stand p l e R s m args below meth c T' locs (cells + 1) (slots + cap) → T'.heap = h' → Ext h h' → Arv Z h' b ka (.array ty) n [] .null → OvrA Z ka ty C → GolF p e below Fe Qf kc ks T' m pc' Ls (.ref b :: rest)) : GolF p e below Fe Qf kc ks T m pc Ls (.int n :: rest) := by
  subst hp
  obtain ⟨T', h', ka, X', e', E, A, -, O, st⟩ := newRA X hx hZ hown hC w1 w2 eT (g := mkF m pc Ls (.int n :: rest)) rfl (hb hby hd) rfl hn (cap := cap) hcap hb8 hc hl rfl
  exact Gol.step st (k T' h' ka _ rfl X' e' E (Arv.new A hn) O)
theorem Gol.grid2 (X : Stand p l e R s m args below meth c T locs cells slots) (hx : p.tables.exec = Jvm.exec) (hby : c.code = code) (hZ : Z.Warmed39 s.vm) {own : String} (hown : s.vm.findClass own = some m.cls) {C ad : String} {ty : FieldType} {index : Nat} (hC : (FieldType.array ty).toString = C) (had : "[" ++ C = ad) (w1 : (Cond.classLink own index ad).before a0 Z = true) (w2 : (Cond.arrayOver (.array ty)).before a0 Z = true) (w3 : (Cond.arrayClass ty).before a0 Z = true) (eT : T.heap = h) (hd : decode code pc = .ok (.multianewarray index 2, 4)) (pc' : Nat) (hp : pc + 4 = pc') (hdf : fits ty (defaultValue ty) = true) (hdd : (defaultValue ty).isDefault = true) (hc : cells + 3 ≤ R.cells) (hl : slots + 6 ≤ R.slots)
    (k : ∀ (T' : State) (h' : Heap) (cA comp : ClassId) (b x0 x1 : Addr), b = h.size → x0 = h.size + 1 → x1 = h.size + 2 → Stand p l e R s m args below meth c T' locs (cells + 3) (slots + 6) → T'.heap = h' → Ext h h' → Arv Z h' b cA (.array ty) (2 : Int32) [.ref x0, .ref x1] .null → Arv Z h' x0 comp ty (2 : Int32) [] (defaultValue ty) → Arv Z h' x1 comp ty (2 : Int32) [] (defaultValue ty) → GolF p e below Fe Qf kc ks T' m pc' Ls (.ref b :: rest)) : GolF p e below Fe Qf kc ks T m pc Ls (.int 2 :: .int 2 :: rest) := by
  subst hp
  obtain ⟨T', h', cA, comp, X', e', E, A, -, -, I, st⟩ := gridM X hx hZ hown hC had w1 w2 w3 eT (g := mkF m pc Ls (.int 2 :: .int 2 :: rest)) rfl (hb hby hd) rfl (by decide) (by decide) (xs := [h.size + 1, h.size + 2]) (N := 2) rfl rfl (cap := 2) (by decide) (by decide) (by decide) hdf hdd hc hl
  exact Gol.step st (k T' h' cA comp _ _ _ rfl rfl rfl X' e' E A (Arv.new (I 0 _ rfl).1 (by decide)) (Arv.new (I 1 _ rfl).1 (by decide)))
theorem Gol.retD (X : Stand p l e R s m args below meth c T locs cells slots) (hx : p.tables.exec = Jvm.exec) (hby : c.code = code) {z : UInt64} (hret : meth.sig.returnType = some .double) (hlk : meth.locks = false) (hd : decode code pc = .ok (.dreturn, 1)) (eT : T.heap = h) (hq : Qf (some (.double z)) h locs) (hc : cells ≤ kc) (hs : slots ≤ ks) : GolF p e below (FrameEnd s) Qf kc ks T m pc Ls (.double z :: rest) :=
  Gol.fin X (fun h => by rw [hret] at h; cases h) hlk eT hq hc hs fun fs hr => Jvm.RoadKit.retOut X hx hret rfl (Or.inr (Or.inr (Or.inl ⟨rfl, rfl, _, rfl⟩))) (hb hby hd) hr
theorem Gol.mrg {α : Type} {S : State} (X : Stand p l e R s m args below meth c T locs cells slots) (B : List Loc → Heap → α → Prop) (S' : State → α → State)
    (h1 : (∀ (T' : State) (lo : List Loc) (h' : Heap) (x : α), Stand p l e R s m args below meth c T' lo cells slots → T'.heap = h' → B lo h' x → Gol p e below Fe Qf kc ks (S' T' x)) → Gol p e below Fe Qf kc ks S)
    (h2 : ∀ (T' : State) (lo : List Loc) (h' : Heap) (x : α), Stand p l e R s m args below meth c T' lo cells slots → T'.heap = h' → B lo h' x → Gol p e below Fe Qf kc ks (S' T' x)) : Gol p e below Fe Qf kc ks S := h1 h2
theorem Gol.merge {α : Type} {S : State} (X : Stand p l e R s m args below meth c T locs cells slots) (eT : T.heap = h) (B : α → Prop) (S' : State → α → State)
    (h1 : (∀ (T' : State) (x : α), Stand p l e R s m args below meth c T' locs cells slots → T'.heap = h → B x → Gol p e below Fe Qf kc ks (S' T' x)) → Gol p e below Fe Qf kc ks S)
    (h2 : ∀ (T' : State) (x : α), Stand p l e R s m args below meth c T' locs cells slots → T'.heap = h → B x → Gol p e below Fe Qf kc ks (S' T' x)) : Gol p e below Fe Qf kc ks S := h1 h2
theorem Gol.callQ (X : Stand p l e R s m args below meth c T locs cells slots) (hx : p.tables.exec = Jvm.exec) (hby : c.code = code) (hZ : Z.Warmed39 s.vm) {own : String} (hown : s.vm.findClass own = some m.cls) {index : Nat} {y z : MethodName} {C : String} {bytes : ByteArray} {maxL : Nat} {ret : Option FieldType} {rm : Room} {Q : Option Value → Heap → List Loc → Prop} (W : Nat) (argsL : List Value) {a : Addr} (wl : (Cond.methodLink own index y).before a0 Z = true) (wi : (Cond.instanceMethod y).before a0 Z = true) (wse : (Cond.selects z.cls z z).before a0 Z = true) (hzc : z.cls = y.cls) (wp : (Cond.privateMethod y).before a0 Z = true) (wz : (Cond.initialized y.cls).before a0 Z = true) (wc : (Cond.code y bytes maxL ret).before a0 Z = true) (hy : y.cls ≠ "java/lang/invoke/MethodHandle" ∧ y.cls ≠ "java/lang/invoke/VarHandle") (E : Exa Z h a C) (hM : MetFree l y (head1 [Cond.code y bytes maxL ret] rm) (fun aa U => aa = (.ref a :: argsL).toArray ∧ Z.Warmed39 U.vm ∧ U.heap = h) (fun _ _ _ _ _ => True) (fun _ U o U' => ∃ v L, o = .returned v ∧ Q v U'.heap L ∧ FrameEnd U o U' L rm.cells rm.slots)) (hf : rm.frames + 1 ≤ R.frames) (hl : W + (maxL + 11) + rm.locals ≤ R.locals) (eT : T.heap = h) {st : List Value} (hsz : Ls.size = c.maxLocals) (hW : (rest.map fun v => v.category).sum ≤ W) (hc : cells + rm.cells ≤ R.cells) (hs : slots + rm.slots ≤ R.slots) (hlen : ∀ sig, parseMethodDescriptor y.desc = some sig → argsL.length = sig.parameters.length) (hst : st = argsL.reverse ++ .ref a :: rest) (hd : decode code pc = .ok (.invokevirtual index, 3)) (pc' : Nat) (hp : pc + 3 = pc')
    (k : ∀ (T' : State) (v : Option Value) (L : List Loc), Stand p l e R s m args below meth c T' (locs ++ L) (cells + rm.cells) (slots + rm.slots) → Q v T'.heap L → GolF p e below Fe Qf kc ks T' m pc' Ls (v.toList ++ rest)) : GolF p e below Fe Qf kc ks T m pc Ls st := by
  subst hp
  obtain ⟨cq, qa, qb⟩ := E.cell
  obtain ⟨mk, methM, hnamed, hmethM, hstM, habM⟩ := Cond.instanceMethod_spec (mvT hZ wi : (Cond.instanceMethod y).before args s = true)
  obtain ⟨methM', cM, hmethM', -, -, -, -, -, -, hsigM⟩ := Cond.code_spec hnamed (mvT hZ wc : (Cond.code y bytes maxL ret).before args s = true)
  cases hmethM.symm.trans hmethM'
  obtain ⟨c2, r2, m2, -, -, q3, -, kP, hkP, hkPi⟩ := Cond.selects_spec (mvT hZ wse : (Cond.selects z.cls z z).before args s = true)
  have ec : m2.cls = mk.cls := by
    have e1 := findClass_of_methodNamed q3
    rw [hzc] at e1
    exact Option.some.inj (e1.symm.trans (findClass_of_methodNamed hnamed))
  rw [ec] at hkP
  obtain ⟨vm₁, X₁, hstep₁⟩ := X.invokevirtual hx hown (mvT hZ wl) hnamed hmethM hstM hkP hkPi hy (a := a) (cell := cq) (by rw [eT]; exact qa) qb (selectMethod_private hmethM ((Cond.privateMethod_at (mvP hZ wp (args := #[]))) mk methM hnamed hmethM)) hmethM habM hkP hkPi (g := mkF m pc Ls st) rfl (argsL := argsL) (rest := rest) (hlen _ hsigM) hst (hb hby hd)
  obtain ⟨v, ⟨T', L1, k1, n1⟩, X', ⟨Lc, hQ, l1, y1, z1⟩, hsteps⟩ := backOf (W := W) hM hZ wc wz hf hl m meth c ⟨T.setVm vm₁, locs, cells, slots⟩ { mkF m pc Ls st with stack := rest } (.invokevirtual index) mk (.ref a :: argsL).toArray X₁ rfl hsz (hb hby hd) (by show 2 * 0 + _ ≤ _; rw [Nat.mul_zero, Nat.zero_add]; exact hW) (X₁.named hnamed) ⟨rfl, eT, hc, hs⟩
  dsimp only [Pt.U, Pt.locs, Pt.cells, Pt.slots] at X' l1 y1 z1 hsteps hQ
  subst l1 y1 z1
  exact Gol.step (fun t k' => (hstep₁ _ fun acts => by rw [doInvoke_state]; exact Steps.refl _).trans (hsteps.trans k')) (k T' v Lc X' hQ)
theorem Gol.maxD (X : Stand p l e R s m args below meth c T locs cells slots) (hx : p.tables.exec = Jvm.exec) (hby : c.code = code) (hZ : Z.Warmed39 s.vm) {own : String} (hown : s.vm.findClass own = some m.cls) {index : Nat} (w1 : (Cond.methodLink own index Jvm.Free.Fl.Abs.maxDN).before a0 Z = true) (w2 : (Cond.static Jvm.Free.Fl.Abs.maxDN).before a0 Z = true) (w3 : (Cond.initialized "java/lang/Math").before a0 Z = true) (w4 : (Cond.code Jvm.Free.Fl.Abs.maxDN Jvm.Free.Fl.Abs.maxDCode 4 (some .double)).before a0 Z = true) (eT : T.heap = h) (W : Nat) {x y v : UInt64} (hd : decode code pc = .ok (.invokestatic index, 3)) (pc' : Nat) (hp : pc + 3 = pc') (hsz : Ls.size = c.maxLocals) (hW : (rest.map fun v => v.category).sum ≤ W) (hf : 1 ≤ R.frames) (hl : W + 15 ≤ R.locals) (hc : cells ≤ R.cells) (hs : slots ≤ R.slots) (hn : NoNaN64 x) (hn' : NoNaN64 y) (hv : Native.java_lang_Math.nans.pick64 true x y = v)
    (k : ∀ T' : State, Stand p l e R s m args below meth c T' locs cells slots → T'.heap = h → GolF p e below Fe Qf kc ks T' m pc' Ls (.double v :: rest)) : GolF p e below Fe Qf kc ks T m pc Ls (.double y :: .double x :: rest) := by
  subst hp
  obtain ⟨T', X', e', st⟩ := natS X hx hZ hown w1 w2 w3 w4 (by decide) eT (W := W) (F := fun a' => a' = #[.double x, .double y] ∧ NoNaN64 x ∧ NoNaN64 y) (fun q => Jvm.Free.Fl.Abs.maxD_pays x y q hf hl) (g := mkF m pc Ls (.double y :: .double x :: rest)) rfl hsz (argsL := [.double x, .double y]) (fun sig q => by cases (show parseMethodDescriptor "(DD)D" = some ⟨[.double, .double], some .double⟩ by decide +kernel).symm.trans q; rfl) rfl (by show 2 * 0 + _ ≤ _; rw [Nat.mul_zero, Nat.zero_add]; exact hW) (hb hby hd) hc hs ⟨rfl, hn, hn'⟩ (congrArg Value.double hv)
  exact Gol.step st (k T' X' e')
/-- 1e-9 is below every whole number that is above nought -/
theorem own_tol {a : Int64} (h : 0 < a.toInt) (hb : B53 a) : FP.dcmp (FP.l2d a) 4472406533629990549 = some .gt := by
  have b1 : B53 1 := (⟨by decide, by decide⟩ : _ ∧ _)
  have e1 := dcmp_ws b1 hb
  have n1 : Core.val64 (FP.l2d 1) ≠ .nan := by decide +kernel
  have n2 : Core.val64 (4472406533629990549 : UInt64) ≠ .nan := by decide +kernel
  have n3 : Core.val64 (FP.l2d a) ≠ .nan := (Core.dcmp_some (show Core.dcmp (FP.l2d 1) (FP.l2d a) = some _ from e1)).2
  have k1 : Core.dkey (4472406533629990549 : UInt64) < Core.dkey (FP.l2d 1) := (Core.dcmp_lt_key n2 n1).mp (by decide +kernel)
  have k2 : Core.dkey (FP.l2d 1) ≤ Core.dkey (FP.l2d a) := by
    have o1 : (1 : Int64).toInt = 1 := rfl
    rw [o1] at e1
    by_cases q : (1 : Int) < a.toInt
    · rw [if_pos q] at e1
      exact Int.le_of_lt ((Core.dcmp_lt_key n1 n3).mp e1)
    · have q2 : (1 : Int) = a.toInt := by omega
      rw [if_neg q, if_pos q2] at e1
      exact Int.le_of_eq ((Core.dcmp_eq_key n1 n3).mp e1)
  exact (Core.dcmp_gt_key n3 n2).mpr (Int.lt_of_lt_of_le k1 k2)
theorem own_tolN {a : Int64} (h : a.toInt ≤ 0) (hb : B53 a) : FP.dcmp (FP.l2d a) 4472406533629990549 = some .lt := by
  have b1 : B53 0 := (⟨by decide, by decide⟩ : _ ∧ _)
  have e1 := dcmp_ws hb b1
  have n1 : Core.val64 (FP.l2d 0) ≠ .nan := by decide +kernel
  have n2 : Core.val64 (4472406533629990549 : UInt64) ≠ .nan := by decide +kernel
  have n3 : Core.val64 (FP.l2d a) ≠ .nan := (Core.dcmp_some (show Core.dcmp (FP.l2d a) (FP.l2d 0) = some _ from e1)).1
  have k1 : Core.dkey (FP.l2d 0) < Core.dkey (4472406533629990549 : UInt64) := (Core.dcmp_lt_key n1 n2).mp (by decide +kernel)
  have k2 : Core.dkey (FP.l2d a) ≤ Core.dkey (FP.l2d 0) := by
    have o1 : (0 : Int64).toInt = 0 := rfl
    rw [o1] at e1
    by_cases q : a.toInt < (0 : Int)
    · rw [if_pos q] at e1
      exact Int.le_of_lt ((Core.dcmp_lt_key n3 n1).mp e1)
    · have q2 : a.toInt = (0 : Int) := by omega
      rw [if_neg q, if_pos q2] at e1
      exact Int.le_of_eq ((Core.dcmp_eq_key n3 n1).mp e1)
  exact (Core.dcmp_lt_key n3 n2).mpr (Int.lt_of_le_of_lt k2 k1)
theorem own_nn {v : UInt64} (h : v &&& 0x7fffffffffffffff ≤ 0x7ff0000000000000) : NoNaN64 v := h
theorem own_ngT {a : Int64} (h : 0 ≤ a.toInt) (hb : B53 a) (o : CmpOp) : cmpValue (FP.dcmp (FP.dneg (FP.l2d a)) 4472406533629990549) o = -1 := by
  by_cases e : a = 0
  · subst e; cases o <;> decide +kernel
  · have q : FP.l2d (-a) = FP.dneg (FP.l2d a) := (Core.l2d_neg e (by have := hb.1; omega)).trans (dneg_core (Core.dcmp_notNaN (show Core.dcmp (FP.l2d a) (FP.l2d a) = some _ from dcmp_ws hb hb)).1).symm
    have n : (-a).toInt = -a.toInt := by
      rw [Int64.toInt_neg]
      have := hb.2
      apply Int.bmod_eq_of_le <;> omega
    rw [← q, own_tolN (by rw [n]; omega) (show _ ∧ _ from ⟨by rw [n]; have := hb.2; omega, by rw [n]; have := hb.1; omega⟩)]
    rfl
theorem own_zT {x : Int32} {a : Int64} (h0 : 0 ≤ a.toInt) (h : a.toInt ≤ x.toInt) (o : CmpOp) : FP.dadd (FP.l2d (-x).toInt64) (FP.l2d a) = FP.l2d ((-x).toInt64 + a) ∧ cmpValue (FP.dcmp (FP.l2d ((-x).toInt64 + a)) 4472406533629990549) o = -1 := by
  have x2 := Int32.toInt_lt x
  have n : (-x).toInt = -x.toInt := by
    rw [Int32.toInt_neg]
    apply Int.bmod_eq_of_le <;> omega
  have e : (-x).toInt64.toInt = -x.toInt := by rw [← n]; simp
  have b1 : B53 (-x).toInt64 := (⟨by rw [e]; omega, by rw [e]; omega⟩ : -9007199254740992 < (-x).toInt64.toInt ∧ (-x).toInt64.toInt < 9007199254740992)
  have b2 : B53 a := (⟨by omega, by omega⟩ : -9007199254740992 < a.toInt ∧ a.toInt < 9007199254740992)
  have s := add64 b1 b2
  refine ⟨dadd_w b1 b2, ?_⟩
  rw [own_tolN (by rw [s, e]; omega) (⟨by rw [s, e]; omega, by rw [s, e]; omega⟩ : -9007199254740992 < ((-x).toInt64 + a).toInt ∧ ((-x).toInt64 + a).toInt < 9007199254740992)]
  rfl
end OwnD
end Jvm.RoadKit
namespace Jvm.Pilot.@@N@@
open Jvm Jvm.ClassFile Sem Op Lib Jvm.Free Jvm.Stand Jvm.LawKit Jvm.RoadKit Bundle Jvm.Pilot.@@N@@.Jvm.D

abbrev uu : Slot := .unset
abbrev ss : Slot := .second
abbrev zM0 : MethodName := ⟨"com/example/quorumstone/quorumstone/check/Relaxation", "solve", "(IJD)D"⟩
abbrev rmm (f c s l : Nat) : Room := { frames := f, cells := c, slots := s, locals := l }
abbrev TW (a0 : Array Value) (Z : State) : Prop := ∀ d ∈ tables_1, d.before a0 Z = true
abbrev Mt (l : Launch) (y : MethodName) (bytes : ByteArray) (ml : Nat) (rt : Option FieldType) (ws : List Jvm.Cond) (R : Room) (a : Array Value) (Z : State) (h0 : Heap) (Q : Option Value → Heap → List Loc → Prop) (rc rs : Nat) : Prop := MetFree l y (head1 (Jvm.Cond.code y bytes ml rt :: ws) R) (fun aa U => aa = a ∧ Z.Warmed39 U.vm ∧ U.heap = h0) (fun _ _ _ _ _ => True) (fun _ U o U' => ∃ v L, o = .returned v ∧ Q v U'.heap L ∧ FrameEnd U o U' L rc rs)
theorem own_body {l : Launch} {y : MethodName} {bytes : ByteArray} {ml : Nat} {rt : Option FieldType} {ws : List Jvm.Cond} {R : Room} {aa : Array Value} {Z : State} {h0 : Heap} {Q : Option Value → Heap → List Loc → Prop} {rc rs : Nat} {a0 : Array Value} (n0 : Nat) (hpl : plainFor y = true) (hw : TW a0 Z) {Ls : Array Slot} (hef : ∀ m : MethodId, entryFrame m aa ml = mkF m 0 Ls [])
    (k : ∀ (p : Program) (ev : Env) (s : State) (m : MethodId) (below : List Frame) (meth : Method) (c : Code) (s₁ : State), BodyLoose p l y (head1 (Jvm.Cond.code y bytes ml rt :: ws) R) bytes ml rt ev s m aa below meth c s₁ → Z.Warmed39 s.vm → p.tables.exec = Jvm.exec → c.code = bytes → c.maxLocals = ml → s.vm.findClass y.cls = some m.cls → Stand p l ev R s m aa below meth c s₁ [] 0 0 → s₁.heap = h0 → Fr n0 [] → (∀ (i : Nat) (d : Jvm.Cond), tables_1[i]? = some d → d.before a0 Z = true) → GolF p ev below (FrameEnd s) Q rc rs s₁ m 0 Ls []) : Mt l y bytes ml rt ws R aa Z h0 Q rc rs := by
  refine MetFree.of_bodySF hpl hisR ?_
  intro p ev s m args below meth c s₁ Bd hml hP hK
  obtain ⟨ha, hZ, hh⟩ := hP
  subst ha
  have eh0 : s₁.heap = h0 := by rw [← hh, Bd.state]; rfl
  have q := k p ev s m below meth c s₁ Bd hZ Bd.exec Bd.bytes hml (findClass_of_methodNamed Bd.named) (Stand.of_body Bd) eh0 (Fr.nil n0) (fun i d q => hw d (List.mem_of_getElem? q))
  show Gol p ev below (FrameEnd s) Q rc rs (s₁.setTop (entryFrame m _ ml))
  rw [hef m]
  exact q
def rxF : List (String × String) := [("candidates", "[I"), ("candidateProfit", "[D"), ("keptInverse", "[[[D"), ("keptBasic", "[[I"), ("keptValue", "[[D"), ("demandsPerPass", "I"), ("rows", "I"), ("classSize", "[I"), ("need", "[I"), ("taken", "[I"), ("shortDemands", "[I"), ("demands", "I"), ("demandStart", "[I"), ("demandClass", "[I"), ("basicRow", "[I"), ("basic", "[I"), ("value", "[D"), ("inverse", "[[D"), ("basicProfit", "[D"), ("multiplier", "[D"), ("entering", "[D"), ("load", "[D"), ("pivotsSinceRefactor", "I"), ("undecided", "J"), ("optimal", "Z"), ("candidateCount", "I"), ("nextDemand", "I"), ("weakest", "I")]
def FL (Z : State) (h : Heap) (r : Addr) (vs : List Value) : Prop := ∀ (i : Nat) (f d : String) (v : Value), rxF[i]? = some (f, d) → vs[i]? = some v → Fld Z h r "com/example/quorumstone/quorumstone/check/Relaxation" f d v
abbrev rxv (A : Nat → Addr) (pp cc nx wk ps : Int32) (un : Int64) (op : Int32) : List Value := [(.ref (A 17)), (.ref (A 18)), (.ref (A 19)), (.ref (A 20)), (.ref (A 21)), (.int pp), (.int 2), (.ref (A 1)), (.ref (A 2)), (.ref (A 3)), (.ref (A 4)), (.int 2), (.ref (A 5)), (.ref (A 6)), (.ref (A 7)), (.ref (A 8)), (.ref (A 9)), (.ref (A 10)), (.ref (A 13)), (.ref (A 14)), (.ref (A 15)), (.ref (A 16)), (.int ps), (.long un), (.int op), (.int cc), (.int nx), (.int wk)]
section FLs
variable {Z : State} {h h' : Heap} {r a : Addr} {vs : List Value} {v : Value} {sl : Nat} {ws : List Addr} {a0 : Array Value}
theorem FL.other (B : FL Z h r vs) (W : Wr h h' a sl v) (q : r ≠ a) : FL Z h' r vs := fun i f d v h1 h2 => (B i f d v h1 h2).other W (Or.inl q)
theorem FL.keep (B : FL Z h r vs) (K : Keep h h' ws) (q : r ∉ ws) : FL Z h' r vs := fun i f d v h1 h2 => (B i f d v h1 h2).keep K q
theorem FL.ext (B : FL Z h r vs) (E : Ext h h') : FL Z h' r vs := fun i f d v h1 h2 => (B i f d v h1 h2).ext E
theorem own_inj1 : (rxF.map Prod.fst).Nodup := by decide
theorem own_inj2 {i j : Nat} {f d d' : String} (h1 : rxF[i]? = some (f, d)) (h2 : rxF[j]? = some (f, d')) : i = j := by
  have e1 : (rxF.map Prod.fst)[i]? = some f := by rw [List.getElem?_map, h1]; rfl
  have e2 : (rxF.map Prod.fst)[j]? = some f := by rw [List.getElem?_map, h2]; rfl
  have hi : i < (rxF.map Prod.fst).length := (List.getElem?_eq_some_iff.mp e1).1
  exact (List.getElem?_inj hi own_inj1).mp (e1.trans e2.symm)
theorem FL.put {i0 : Nat} {g dg : String} (B : FL Z h r vs) (LA : ∀ (i : Nat) (f d : String), rxF[i]? = some (f, d) → Laid Z a0 "com/example/quorumstone/quorumstone/check/Relaxation" "com/example/quorumstone/quorumstone/check/Relaxation" f d ∧ ∃ t, parseFieldDescriptor d = some t) (hi : rxF[i0]? = some (g, dg)) (W : Wr h h' r (Jvm.RoadKit.slotOf Z "com/example/quorumstone/quorumstone/check/Relaxation" g dg) v) : FL Z h' r (vs.set i0 v) := by
  intro i f d w h1 h2
  by_cases e : i = i0
  · subst e
    cases h1.symm.trans hi
    have hl : i < vs.length := by have := (List.getElem?_eq_some_iff.mp h2).1; rwa [List.length_set] at this
    rw [List.getElem?_set_self hl] at h2
    cases h2
    exact (B i _ _ _ hi (List.getElem?_eq_getElem hl)).same W
  · rw [List.getElem?_set_ne (Ne.symm e)] at h2
    obtain ⟨l1, t1, p1⟩ := LA i f d h1
    obtain ⟨l2, t2, p2⟩ := LA i0 g dg hi
    exact (B i f d w h1 h2).other W (Or.inr (slot_ne l1 l2 (fun q => e (own_inj2 h1 (q ▸ hi))) p1 p2))
end FLs
theorem own_LA {Z : State} {a0 : Array Value} (hw : ∀ d ∈ tables_1, d.before a0 Z = true) : ∀ (i : Nat) (f d : String), rxF[i]? = some (f, d) → Laid Z a0 "com/example/quorumstone/quorumstone/check/Relaxation" "com/example/quorumstone/quorumstone/check/Relaxation" f d ∧ ∃ t, parseFieldDescriptor d = some t
  | 0, _, _, q => by cases q; exact ⟨Or.inr (hw _ (List.mem_of_getElem? (i := 18) rfl)), (.array .int), by decide⟩
  | 1, _, _, q => by cases q; exact ⟨Or.inr (hw _ (List.mem_of_getElem? (i := 21) rfl)), (.array .double), by decide⟩
  | 2, _, _, q => by cases q; exact ⟨Or.inl (hw _ (List.mem_of_getElem? (i := 25) rfl)), (.array (.array (.array .double))), by decide⟩
  | 3, _, _, q => by cases q; exact ⟨Or.inl (hw _ (List.mem_of_getElem? (i := 29) rfl)), (.array (.array .int)), by decide⟩
  | 4, _, _, q => by cases q; exact ⟨Or.inl (hw _ (List.mem_of_getElem? (i := 33) rfl)), (.array (.array .double)), by decide⟩
  | 5, _, _, q => by cases q; exact ⟨Or.inr (hw _ (List.mem_of_getElem? (i := 35) rfl)), .int, by decide⟩
  | 6, _, _, q => by cases q; exact ⟨Or.inr (hw _ (List.mem_of_getElem? (i := 37) rfl)), .int, by decide⟩
  | 7, _, _, q => by cases q; exact ⟨Or.inr (hw _ (List.mem_of_getElem? (i := 39) rfl)), (.array .int), by decide⟩
  | 8, _, _, q => by cases q; exact ⟨Or.inr (hw _ (List.mem_of_getElem? (i := 41) rfl)), (.array .int), by decide⟩
  | 9, _, _, q => by cases q; exact ⟨Or.inr (hw _ (List.mem_of_getElem? (i := 43) rfl)), (.array .int), by decide⟩
  | 10, _, _, q => by cases q; exact ⟨Or.inr (hw _ (List.mem_of_getElem? (i := 45) rfl)), (.array .int), by decide⟩
  | 11, _, _, q => by cases q; exact ⟨Or.inr (hw _ (List.mem_of_getElem? (i := 47) rfl)), .int, by decide⟩
  | 12, _, _, q => by cases q; exact ⟨Or.inr (hw _ (List.mem_of_getElem? (i := 49) rfl)), (.array .int), by decide⟩
  | 13, _, _, q => by cases q; exact ⟨Or.inr (hw _ (List.mem_of_getElem? (i := 58) rfl)), (.array .int), by decide⟩
  | 14, _, _, q => by cases q; exact ⟨Or.inr (hw _ (List.mem_of_getElem? (i := 68) rfl)), (.array .int), by decide⟩
  | 15, _, _, q => by cases q; exact ⟨Or.inr (hw _ (List.mem_of_getElem? (i := 70) rfl)), (.array .int), by decide⟩
  | 16, _, _, q => by cases q; exact ⟨Or.inr (hw _ (List.mem_of_getElem? (i := 72) rfl)), (.array .double), by decide⟩
  | 17, _, _, q => by cases q; exact ⟨Or.inr (hw _ (List.mem_of_getElem? (i := 74) rfl)), (.array (.array .double)), by decide⟩
  | 18, _, _, q => by cases q; exact ⟨Or.inr (hw _ (List.mem_of_getElem? (i := 76) rfl)), (.array .double), by decide⟩
  | 19, _, _, q => by cases q; exact ⟨Or.inr (hw _ (List.mem_of_getElem? (i := 78) rfl)), (.array .double), by decide⟩
  | 20, _, _, q => by cases q; exact ⟨Or.inr (hw _ (List.mem_of_getElem? (i := 80) rfl)), (.array .double), by decide⟩
  | 21, _, _, q => by cases q; exact ⟨Or.inr (hw _ (List.mem_of_getElem? (i := 82) rfl)), (.array .double), by decide⟩
  | 22, _, _, q => by cases q; exact ⟨Or.inl (hw _ (List.mem_of_getElem? (i := 95) rfl)), .int, by decide⟩
  | 23, _, _, q => by cases q; exact ⟨Or.inl (hw _ (List.mem_of_getElem? (i := 104) rfl)), .long, by decide⟩
  | 24, _, _, q => by cases q; exact ⟨Or.inl (hw _ (List.mem_of_getElem? (i := 106) rfl)), .boolean, by decide⟩
  | 25, _, _, q => by cases q; exact ⟨Or.inl (hw _ (List.mem_of_getElem? (i := 124) rfl)), .int, by decide⟩
  | 26, _, _, q => by cases q; exact ⟨Or.inl (hw _ (List.mem_of_getElem? (i := 126) rfl)), .int, by decide⟩
  | 27, _, _, q => by cases q; exact ⟨Or.inl (hw _ (List.mem_of_getElem? (i := 141) rfl)), .int, by decide⟩
  | n + 28, _, _, q => by cases q
theorem own_FL0 {Z : State} {a0 : Array Value} {h : Heap} {b : Addr} (hw : ∀ d ∈ tables_1, d.before a0 Z = true) (Dn : ∀ {O nm d : String} {ty : FieldType}, Laid Z a0 "com/example/quorumstone/quorumstone/check/Relaxation" O nm d → parseFieldDescriptor d = some ty → Fld Z h b O nm d (defaultValue ty)) : FL Z h b [.null, .null, .null, .null, .null, (.int 0), (.int 0), .null, .null, .null, .null, (.int 0), .null, .null, .null, .null, .null, .null, .null, .null, .null, .null, (.int 0), (.long 0), (.int 0), (.int 0), (.int 0), (.int 0)]
  | 0, _, _, _, q, q2 => by cases q; cases q2; exact Dn (Or.inr (hw _ (List.mem_of_getElem? (i := 18) rfl))) (ty := (.array .int)) (by decide)
  | 1, _, _, _, q, q2 => by cases q; cases q2; exact Dn (Or.inr (hw _ (List.mem_of_getElem? (i := 21) rfl))) (ty := (.array .double)) (by decide)
  | 2, _, _, _, q, q2 => by cases q; cases q2; exact Dn (Or.inl (hw _ (List.mem_of_getElem? (i := 25) rfl))) (ty := (.array (.array (.array .double)))) (by decide)
  | 3, _, _, _, q, q2 => by cases q; cases q2; exact Dn (Or.inl (hw _ (List.mem_of_getElem? (i := 29) rfl))) (ty := (.array (.array .int))) (by decide)
  | 4, _, _, _, q, q2 => by cases q; cases q2; exact Dn (Or.inl (hw _ (List.mem_of_getElem? (i := 33) rfl))) (ty := (.array (.array .double))) (by decide)
  | 5, _, _, _, q, q2 => by cases q; cases q2; exact Dn (Or.inr (hw _ (List.mem_of_getElem? (i := 35) rfl))) (ty := .int) (by decide)
  | 6, _, _, _, q, q2 => by cases q; cases q2; exact Dn (Or.inr (hw _ (List.mem_of_getElem? (i := 37) rfl))) (ty := .int) (by decide)
  | 7, _, _, _, q, q2 => by cases q; cases q2; exact Dn (Or.inr (hw _ (List.mem_of_getElem? (i := 39) rfl))) (ty := (.array .int)) (by decide)
  | 8, _, _, _, q, q2 => by cases q; cases q2; exact Dn (Or.inr (hw _ (List.mem_of_getElem? (i := 41) rfl))) (ty := (.array .int)) (by decide)
  | 9, _, _, _, q, q2 => by cases q; cases q2; exact Dn (Or.inr (hw _ (List.mem_of_getElem? (i := 43) rfl))) (ty := (.array .int)) (by decide)
  | 10, _, _, _, q, q2 => by cases q; cases q2; exact Dn (Or.inr (hw _ (List.mem_of_getElem? (i := 45) rfl))) (ty := (.array .int)) (by decide)
  | 11, _, _, _, q, q2 => by cases q; cases q2; exact Dn (Or.inr (hw _ (List.mem_of_getElem? (i := 47) rfl))) (ty := .int) (by decide)
  | 12, _, _, _, q, q2 => by cases q; cases q2; exact Dn (Or.inr (hw _ (List.mem_of_getElem? (i := 49) rfl))) (ty := (.array .int)) (by decide)
  | 13, _, _, _, q, q2 => by cases q; cases q2; exact Dn (Or.inr (hw _ (List.mem_of_getElem? (i := 58) rfl))) (ty := (.array .int)) (by decide)
  | 14, _, _, _, q, q2 => by cases q; cases q2; exact Dn (Or.inr (hw _ (List.mem_of_getElem? (i := 68) rfl))) (ty := (.array .int)) (by decide)
  | 15, _, _, _, q, q2 => by cases q; cases q2; exact Dn (Or.inr (hw _ (List.mem_of_getElem? (i := 70) rfl))) (ty := (.array .int)) (by decide)
  | 16, _, _, _, q, q2 => by cases q; cases q2; exact Dn (Or.inr (hw _ (List.mem_of_getElem? (i := 72) rfl))) (ty := (.array .double)) (by decide)
  | 17, _, _, _, q, q2 => by cases q; cases q2; exact Dn (Or.inr (hw _ (List.mem_of_getElem? (i := 74) rfl))) (ty := (.array (.array .double))) (by decide)
  | 18, _, _, _, q, q2 => by cases q; cases q2; exact Dn (Or.inr (hw _ (List.mem_of_getElem? (i := 76) rfl))) (ty := (.array .double)) (by decide)
  | 19, _, _, _, q, q2 => by cases q; cases q2; exact Dn (Or.inr (hw _ (List.mem_of_getElem? (i := 78) rfl))) (ty := (.array .double)) (by decide)
  | 20, _, _, _, q, q2 => by cases q; cases q2; exact Dn (Or.inr (hw _ (List.mem_of_getElem? (i := 80) rfl))) (ty := (.array .double)) (by decide)
  | 21, _, _, _, q, q2 => by cases q; cases q2; exact Dn (Or.inr (hw _ (List.mem_of_getElem? (i := 82) rfl))) (ty := (.array .double)) (by decide)
  | 22, _, _, _, q, q2 => by cases q; cases q2; exact Dn (Or.inl (hw _ (List.mem_of_getElem? (i := 95) rfl))) (ty := .int) (by decide)
  | 23, _, _, _, q, q2 => by cases q; cases q2; exact Dn (Or.inl (hw _ (List.mem_of_getElem? (i := 104) rfl))) (ty := .long) (by decide)
  | 24, _, _, _, q, q2 => by cases q; cases q2; exact Dn (Or.inl (hw _ (List.mem_of_getElem? (i := 106) rfl))) (ty := .boolean) (by decide)
  | 25, _, _, _, q, q2 => by cases q; cases q2; exact Dn (Or.inl (hw _ (List.mem_of_getElem? (i := 124) rfl))) (ty := .int) (by decide)
  | 26, _, _, _, q, q2 => by cases q; cases q2; exact Dn (Or.inl (hw _ (List.mem_of_getElem? (i := 126) rfl))) (ty := .int) (by decide)
  | 27, _, _, _, q, q2 => by cases q; cases q2; exact Dn (Or.inl (hw _ (List.mem_of_getElem? (i := 141) rfl))) (ty := .int) (by decide)
  | n + 28, _, _, _, q, _ => by cases q
def sel {α : Type} (c : Int32) (x y : α) : α := if c = 0 then x else y
abbrev B01 (c : Int32) : Prop := c = 0 ∨ c = 1
abbrev Vv (Z : State) (h : Heap) (x : Addr) (ty : FieldType) (z : Int32) (vs : List Value) (d : Value) : Prop := ∃ k : ClassId, Arv Z h x k ty z vs d
abbrev vi (x : Int32) : Slot := .val (.int x)
abbrev vj (x : Int64) : Slot := .val (.long x)
abbrev vd (x : UInt64) : Slot := .val (.double x)
abbrev vr (x : Addr) : Slot := .val (.ref x)
theorem Gol.fB {p : Program} {l : Launch} {e : Env} {R : Room} {s : State} {m : MethodId} {args : Array Value} {below : List Frame} {meth : Method} {c : Code} {T : State} {locs : List Loc} {cells slots : Nat} {Fe : Outcome → State → List Loc → Nat → Nat → Prop} {Qf : Option Value → Heap → List Loc → Prop} {kc ks : Nat} {code : ByteArray} {pc : Nat} {Ls : Array Slot} {rest : List Value} {Z : State} {a0 : Array Value} {h : Heap} (X : Stand p l e R s m args below meth c T locs cells slots) (hx : p.tables.exec = Jvm.exec) (hby : c.code = code) (hZ : Z.Warmed39 s.vm) {own : String} (hown : s.vm.findClass own = some m.cls) {f d : String} {index : Nat} (w : (Cond.fieldLink own index "com/example/quorumstone/quorumstone/check/Relaxation" f d).before a0 Z = true) (eT : T.heap = h) {a : Addr} {vs : List Value} {v : Value} (B : FL Z h a vs) (i : Nat) (hd0 : decode code pc = .ok (.aload_n 0, 1)) (hd : decode code (pc + 1) = .ok (.getfield index, 3)) (pc' : Nat) (hp : pc + 4 = pc') (hl : Ls[0]? = some (.val (.ref a))) (hf : rxF[i]? = some (f, d)) (hv : vs[i]? = some v)
    (k : ∀ T' : State, Stand p l e R s m args below meth c T' locs cells slots → T'.heap = h → GolF p e below Fe Qf kc ks T' m pc' Ls (v :: rest)) : GolF p e below Fe Qf kc ks T m pc Ls rest :=
  Gol.aloadN (k := 0) X hx hby hd0 _ rfl hl rfl (Gol.getF X hx hby hZ hown (host := "") (Or.inl w) Via.refl eT (B i f d v hf hv) hd _ hp k)
abbrev DisA (A : Nat → Addr) : Prop := ∀ i j : Nat, (i != j && i < 22 && j < 22) = true → A i ≠ A j
theorem nnA {A : Nat → Addr} (D : DisA A) (i : Nat) (l : List Nat) (h : (l.all fun j => i != j && i < 22 && j < 22) = true) : A i ∉ l.map A := by
  intro q
  obtain ⟨j, hj, e⟩ := List.mem_map.mp q
  exact D i j (List.all_eq_true.mp h j hj) e.symm
abbrev FreA (A : Nat → Addr) (n0 : Nat) : Prop := ∀ i : Nat, decide (i < 22) = true → n0 ≤ A i

theorem own_in2 {c : Int32} (h : B01 c) : ¬ c < 0 ∧ c < 2 := by rcases h with rfl | rfl <;> decide
theorem own_in6 {c : Int32} (h : B01 c) : ¬ c < 0 ∧ c < 6 := by rcases h with rfl | rfl <;> decide
theorem own_rI {c x y : Int32} {d : Value} {l : List Value} (h : B01 c) : (Value.int x :: .int y :: l).getD c.toNatClampNeg d = .int (sel c x y) := by rcases h with rfl | rfl <;> rfl
theorem own_rD {c : Int32} {x y : UInt64} {d : Value} {l : List Value} (h : B01 c) : (Value.double x :: .double y :: l).getD c.toNatClampNeg d = .double (sel c x y) := by rcases h with rfl | rfl <;> rfl
theorem own_lt2 {c : Int32} (h : B01 c) : c < (2 : Int32) := by rcases h with rfl | rfl <;> decide
theorem own_ds0 {c : Int32} {d : Value} (h : B01 c) : [Value.int (0 : Int32), .int (1 : Int32), .int (2 : Int32)].getD c.toNatClampNeg d = .int c := by rcases h with rfl | rfl <;> rfl
theorem own_ds1 {c : Int32} {d : Value} (h : B01 c) : [Value.int (0 : Int32), .int (1 : Int32), .int (2 : Int32)].getD (c + (1 : Int32)).toNatClampNeg d = .int (c + (1 : Int32)) := by rcases h with rfl | rfl <;> rfl
theorem own_in3 {c : Int32} (h : B01 c) : ¬ c < 0 ∧ c < 3 := by rcases h with rfl | rfl <;> decide
theorem own_in31 {c : Int32} (h : B01 c) : ¬ c + (1 : Int32) < 0 ∧ c + (1 : Int32) < 3 := by rcases h with rfl | rfl <;> decide
theorem own_lts {c : Int32} (h : B01 c) : c < c + (1 : Int32) := by rcases h with rfl | rfl <;> decide
theorem own_selB {c x y : Int32} (hx : B01 x) (hy : B01 y) : B01 (sel c x y) := by unfold sel; split <;> assumption
theorem own_b53 (x : Int32) : B53 x.toInt64 := by
  have h1 := Int32.le_toInt x
  have h2 := Int32.toInt_lt x
  have e : x.toInt64.toInt = x.toInt := by simp
  show -9007199254740992 < x.toInt64.toInt ∧ x.toInt64.toInt < 9007199254740992
  omega
theorem own_i2d (x : Int32) : FP.i2d x = FP.l2d x.toInt64 := i2d_w x
theorem own_fin {a : Int64} : Jvm.Free.Fl.NoNaN64 (FP.l2d a) := nn_w rfl
theorem own_sub0 {a : Int64} (h : B53 a) : FP.dsub (FP.l2d a) 0 = FP.l2d a := by
  have z : B53 0 := (⟨by decide, by decide⟩ : _ ∧ _)
  have q := dsub_w h z
  rw [l2d_zero] at q
  rw [q, Int64.sub_zero]
theorem own_one : FP.l2d 1 = 4607182418800017408 := by decide +kernel
theorem own_b1 : B53 1 := (⟨by decide, by decide⟩ : _ ∧ _)
theorem own_b0 : B53 0 := (⟨by decide, by decide⟩ : _ ∧ _)
theorem own_mul1 {a : Int64} (h : B53 a) (n : 0 < a.toInt) : FP.dmul (FP.l2d a) 4607182418800017408 = FP.l2d a := by
  have q := dmul_w h own_b1 (fun e => by subst e; exact absurd n (by decide)) (by decide) (by have := h.1; rw [show (1 : Int64).toInt = 1 from rfl]; omega) (by have := h.2; rw [show (1 : Int64).toInt = 1 from rfl]; omega)
  rw [own_one, Int64.mul_one] at q
  exact q
theorem own_mul0 {a : Int64} (h : B53 a) (n : 0 < a.toInt) : FP.dmul (FP.l2d a) 0 = 0 := by
  have q := dmul_z h own_b0 (Or.inr rfl)
  have e1 : decide (a.toInt < 0) = false := decide_eq_false (by omega)
  have e2 : decide ((0 : Int64).toInt < 0) = false := by decide
  rw [e1, e2, l2d_zero] at q
  exact q
theorem own_add0 {a : Int64} (h : B53 a) : FP.dadd (FP.l2d a) 0 = FP.l2d a := by
  have q := dadd_w h own_b0
  rw [l2d_zero, Int64.add_zero] at q
  exact q
theorem own_0add {a : Int64} (h : B53 a) : FP.dadd 0 (FP.l2d a) = FP.l2d a := by
  have q := dadd_w own_b0 h
  rw [l2d_zero, Int64.zero_add] at q
  exact q
theorem own_le1 {x : UInt64} (h : x = 0 ∨ x = 4607182418800017408) : ¬ (0 : Int32) < cmpValue (FP.dcmp x 4607182418800017408) .l := by rcases h with rfl | rfl <;> decide +kernel
theorem own_set6 {c x y z : Int32} {l : List Value} (h : B01 c) : (Value.int x :: .int y :: l).set c.toNatClampNeg (.int z) = .int (sel c z x) :: .int (sel c y z) :: l := by rcases h with rfl | rfl <;> rfl
theorem own_len6 {c : Int32} (h : B01 c) : c.toNatClampNeg < 6 := by rcases h with rfl | rfl <;> decide
theorem own_sub0' {a : Int64} {w : UInt64} (h : B53 a) (hw : w = 0) : FP.dsub (FP.l2d a) w = FP.l2d a := by subst hw; exact own_sub0 h
abbrev dc1 (i : Nat) (x : Instr) (n : Nat) : Prop := decode jdk_29_method_65_code i = .ok (x, n)
theorem d1_0 : dc1 0 (.iload_n 0) 1 := by decide +kernel
theorem d1_1 : dc1 1 (.iload_n 1) 1 := by decide +kernel
theorem d1_2 : dc1 2 (.if_icmp .lt 7) 3 := by decide +kernel
theorem d1_5 : dc1 5 (.iload_n 0) 1 := by decide +kernel
theorem d1_6 : dc1 6 (.goto 4) 3 := by decide +kernel
theorem d1_9 : dc1 9 (.iload_n 1) 1 := by decide +kernel
theorem d1_10 : dc1 10 .ireturn 1 := by decide +kernel
theorem pd_0 : parseMethodDescriptor "(II)I" = some ⟨[.int, .int], some .int⟩ := by decide +kernel
theorem pd_1 : parseMethodDescriptor "([II)V" = some ⟨[(.array .int), .int], none⟩ := by decide +kernel
theorem pd_2 : parseMethodDescriptor "([DD)V" = some ⟨[(.array .double), .double], none⟩ := by decide +kernel
theorem pd_3 : parseMethodDescriptor "(I)D" = some ⟨[.int], some .double⟩ := by decide +kernel
theorem pd_4 : parseMethodDescriptor "()V" = some ⟨[], none⟩ := by decide +kernel
theorem pd_5 : parseMethodDescriptor "(ID)Z" = some ⟨[.int, .double], some .boolean⟩ := by decide +kernel
theorem pd_6 : parseMethodDescriptor "(I)I" = some ⟨[.int], some .int⟩ := by decide +kernel
theorem pd_7 : parseMethodDescriptor "(J)I" = some ⟨[.long], some .int⟩ := by decide +kernel
theorem pd_8 : parseMethodDescriptor "(IZ)I" = some ⟨[.int, .boolean], some .int⟩ := by decide +kernel
theorem pd_9 : parseMethodDescriptor "(IIDD)V" = some ⟨[.int, .int, .double, .double], none⟩ := by decide +kernel
theorem pd_10 : parseMethodDescriptor "()D" = some ⟨[], some .double⟩ := by decide +kernel
theorem pd_11 : parseMethodDescriptor "()I" = some ⟨[], some .int⟩ := by decide +kernel
theorem pd_12 : parseMethodDescriptor "([I[J[I[I[II)V" = some ⟨[(.array .int), (.array .long), (.array .int), (.array .int), (.array .int), .int], none⟩ := by decide +kernel
theorem pd_13 : parseMethodDescriptor "(IJD)D" = some ⟨[.int, .long, .double], some .double⟩ := by decide +kernel
theorem pd_14 : parseMethodDescriptor "([I[D)I" = some ⟨[(.array .int), (.array .double)], some .int⟩ := by decide +kernel
theorem ef_1 (m : MethodId) (p0 : Int32) (p1 : Int32) : entryFrame m #[(.int p0), (.int p1)] 2 = mkF m 0 #[vi p0, vi p1] [] := by first | (simp [entryFrame, mkF, argsToLocals, Value.category]; done) | rfl
def f1 (p0 p1 : Int32) : Int32 :=
  if p0 < p1 then
    p1
  else
    p0
abbrev Q1 (Z : State) (p0 p1 : Int32) (h0 : Heap) (n0 : Nat) (v : Option Value) (h : Heap) (L : List Loc) : Prop := v = some (.int (f1 p0 p1)) ∧ Fr n0 L ∧ h = h0
set_option maxRecDepth 65536 in
set_option maxHeartbeats 40000000 in
theorem rm1 (l : Launch) (Z : State) (a0 : Array Value) (hw : TW a0 Z) (ws : List Jvm.Cond) (p0 p1 : Int32) (h0 : Heap) (n0 : Nat) (Zs : n0 ≤ h0.size) :
    Mt l (⟨"java/lang/Math", "max", "(II)I"⟩ : MethodName) jdk_29_method_65_code 2 (some .int) ws (rmm 0 0 0 0) #[(.int p0), (.int p1)] Z h0 (Q1 Z p0 p1 h0 n0) 0 0 := by
  refine own_body n0 (Jvm.Free.JP.mathPlain rfl (by decide +kernel)) hw (fun m => ef_1 m p0 p1) ?_
  intro p ev s m below meth c s₁ Bd hZ hx hby hml hown X0 eh0 N0 w
  show GolF _ _ _ _ _ _ _ s₁ m 0 #[vi p0, vi p1] []
  refine Gol.iloadN X0 hx hby d1_0 1 rfl rfl ?_
  refine Gol.iloadN X0 hx hby d1_1 2 rfl rfl ?_
  by_cases hc2_1 : p0 < p1
  · skip
    refine Gol.icmpYes X0 hx hby d1_2 9 (by decide) (tlt hc2_1).1 ?_
    refine Gol.iloadN X0 hx hby d1_9 10 rfl rfl ?_
    have hv2 : f1 p0 p1 = p1 := by
      unfold f1
      rw [if_pos hc2_1]
    exact Gol.retI X0 hx hby Bd.returns Bd.notSynchronized d1_10 eh0 ⟨congrArg (fun z => some (Value.int z)) (hv2.symm), N0, rfl⟩ (by decide) (by decide)
  · skip
    refine Gol.icmpNo X0 hx hby d1_2 5 rfl (flt hc2_1).1 ?_
    refine Gol.iloadN X0 hx hby d1_5 6 rfl rfl ?_
    refine Gol.goto X0 hx hby d1_6 10 (by decide) ?_
    have hv3 : f1 p0 p1 = p0 := by
      unfold f1
      rw [if_neg hc2_1]
    exact Gol.retI X0 hx hby Bd.returns Bd.notSynchronized d1_10 eh0 ⟨congrArg (fun z => some (Value.int z)) (hv3.symm), N0, rfl⟩ (by decide) (by decide)
def nz (p : Int32) : Int32 := if p = 2 then 1 else 0
def nzL (q : Int64) : Int32 := if q = 2 then 1 else 0
abbrev dc6 (i : Nat) (x : Instr) (n : Nat) : Prop := decode jdk_33_method_48_code i = .ok (x, n)
theorem d6_0 : dc6 0 (.iload_n 0) 1 := by decide +kernel
theorem d6_1 : dc6 1 (.iconst (-1)) 1 := by decide +kernel
theorem d6_2 : dc6 2 .ixor 1 := by decide +kernel
theorem d6_3 : dc6 3 (.iload_n 0) 1 := by decide +kernel
theorem d6_4 : dc6 4 (.iconst 1) 1 := by decide +kernel
theorem d6_5 : dc6 5 .isub 1 := by decide +kernel
theorem d6_6 : dc6 6 .iand 1 := by decide +kernel
theorem d6_7 : dc6 7 (.istore_n 0) 1 := by decide +kernel
theorem d6_8 : dc6 8 (.iload_n 0) 1 := by decide +kernel
theorem d6_9 : dc6 9 (.ifCond .gt 8) 3 := by decide +kernel
theorem d6_12 : dc6 12 (.iload_n 0) 1 := by decide +kernel
theorem d6_13 : dc6 13 (.bipush 32) 2 := by decide +kernel
theorem d6_15 : dc6 15 .iand 1 := by decide +kernel
theorem d6_16 : dc6 16 .ireturn 1 := by decide +kernel
theorem d6_17 : dc6 17 (.iconst 1) 1 := by decide +kernel
theorem d6_18 : dc6 18 (.istore_n 1) 1 := by decide +kernel
theorem d6_19 : dc6 19 (.iload_n 0) 1 := by decide +kernel
theorem d6_20 : dc6 20 (.ldc_w 264) 3 := by decide +kernel
theorem d6_23 : dc6 23 (.if_icmp .le 11) 3 := by decide +kernel
theorem d6_34 : dc6 34 (.iload_n 0) 1 := by decide +kernel
theorem d6_35 : dc6 35 (.sipush 256) 3 := by decide +kernel
theorem d6_38 : dc6 38 (.if_icmp .le 11) 3 := by decide +kernel
theorem d6_49 : dc6 49 (.iload_n 0) 1 := by decide +kernel
theorem d6_50 : dc6 50 (.bipush 16) 2 := by decide +kernel
theorem d6_52 : dc6 52 (.if_icmp .le 10) 3 := by decide +kernel
theorem d6_62 : dc6 62 (.iload_n 0) 1 := by decide +kernel
theorem d6_63 : dc6 63 (.iconst 4) 1 := by decide +kernel
theorem d6_64 : dc6 64 (.if_icmp .le 10) 3 := by decide +kernel
theorem d6_74 : dc6 74 (.iload_n 1) 1 := by decide +kernel
theorem d6_75 : dc6 75 (.iload_n 0) 1 := by decide +kernel
theorem d6_76 : dc6 76 (.iconst 1) 1 := by decide +kernel
theorem d6_77 : dc6 77 .iushr 1 := by decide +kernel
theorem d6_78 : dc6 78 .iadd 1 := by decide +kernel
theorem d6_79 : dc6 79 .ireturn 1 := by decide +kernel
theorem pn_6 : plainName "java/lang/Integer" = true := by first | (simp [plainName, overriddenIn]; done) | decide +kernel
theorem ef_6 (m : MethodId) (p0 : Int32) : entryFrame m #[(.int p0)] 2 = mkF m 0 #[vi p0, uu] [] := by first | (simp [entryFrame, mkF, argsToLocals, Value.category]; done) | rfl
abbrev Q6 (Z : State) (p0 : Int32) (h0 : Heap) (n0 : Nat) (v : Option Value) (h : Heap) (L : List Loc) : Prop := v = some (.int (nz p0)) ∧ Fr n0 L ∧ h = h0
set_option maxRecDepth 65536 in
set_option maxHeartbeats 40000000 in
theorem rm6 (l : Launch) (Z : State) (a0 : Array Value) (hw : TW a0 Z) (ws : List Jvm.Cond) (p0 : Int32) (h0 : Heap) (n0 : Nat) (Zs : n0 ≤ h0.size) (hl : p0 = 1 ∨ p0 = 2 ∨ p0 = 3) :
    Mt l (⟨"java/lang/Integer", "numberOfTrailingZeros", "(I)I"⟩ : MethodName) jdk_33_method_48_code 2 (some .int) ws (rmm 0 0 0 0) #[(.int p0)] Z h0 (Q6 Z p0 h0 n0) 0 0 := by
  refine own_body n0 (plainFor_of_name pn_6) hw (fun m => ef_6 m p0) ?_
  intro p ev s m below meth c s₁ Bd hZ hx hby hml hown X0 eh0 N0 w
  show GolF _ _ _ _ _ _ _ s₁ m 0 #[vi p0, uu] []
  rcases hl with rfl | rfl | rfl
  · skip
    show GolF _ _ _ _ _ _ _ s₁ m 0 #[vi 1, uu] []
    refine Gol.iloadN X0 hx hby d6_0 1 rfl rfl ?_
    refine Gol.iconst X0 hx hby d6_1 2 rfl (z := (-1 : Int32)) rfl ?_
    refine Gol.ixor X0 hx hby d6_2 3 rfl (z := (-2 : Int32)) rfl ?_
    refine Gol.iloadN X0 hx hby d6_3 4 rfl rfl ?_
    refine Gol.iconst X0 hx hby d6_4 5 rfl (z := (1 : Int32)) rfl ?_
    refine Gol.isub X0 hx hby d6_5 6 rfl (z := (0 : Int32)) rfl ?_
    refine Gol.iand X0 hx hby d6_6 7 rfl (z := (0 : Int32)) rfl ?_
    refine Gol.istoreN X0 hx hby d6_7 8 rfl (l' := #[vi 0, uu]) rfl ?_
    refine Gol.iloadN X0 hx hby d6_8 9 rfl rfl ?_
    refine Gol.ifNo X0 hx hby d6_9 12 rfl ((if0 _ _).trans (flt (by decide : ¬ ((0 : Int32) < (0 : Int32)))).2.2.1) ?_
    refine Gol.iloadN X0 hx hby d6_12 13 rfl rfl ?_
    refine Gol.bipush X0 hx hby d6_13 15 rfl (z := (32 : Int32)) rfl ?_
    refine Gol.iand X0 hx hby d6_15 16 rfl (z := (0 : Int32)) rfl ?_
    exact Gol.retI X0 hx hby Bd.returns Bd.notSynchronized d6_16 eh0 ⟨congrArg (fun z => some (Value.int z)) (by decide : (0 : Int32) = nz 1), N0, rfl⟩ (by decide) (by decide)
  · skip
    show GolF _ _ _ _ _ _ _ s₁ m 0 #[vi 2, uu] []
    refine Gol.iloadN X0 hx hby d6_0 1 rfl rfl ?_
    refine Gol.iconst X0 hx hby d6_1 2 rfl (z := (-1 : Int32)) rfl ?_
    refine Gol.ixor X0 hx hby d6_2 3 rfl (z := (-3 : Int32)) rfl ?_
    refine Gol.iloadN X0 hx hby d6_3 4 rfl rfl ?_
    refine Gol.iconst X0 hx hby d6_4 5 rfl (z := (1 : Int32)) rfl ?_
    refine Gol.isub X0 hx hby d6_5 6 rfl (z := (1 : Int32)) rfl ?_
    refine Gol.iand X0 hx hby d6_6 7 rfl (z := (1 : Int32)) rfl ?_
    refine Gol.istoreN X0 hx hby d6_7 8 rfl (l' := #[vi 1, uu]) rfl ?_
    refine Gol.iloadN X0 hx hby d6_8 9 rfl rfl ?_
    refine Gol.ifYes X0 hx hby d6_9 17 (by decide) ((if0 _ _).trans (tlt (by decide : (0 : Int32) < (1 : Int32))).2.2.1) ?_
    refine Gol.iconst X0 hx hby d6_17 18 rfl (z := (1 : Int32)) rfl ?_
    refine Gol.istoreN X0 hx hby d6_18 19 rfl (l' := #[vi 1, vi 1]) rfl ?_
    refine Gol.iloadN X0 hx hby d6_19 20 rfl rfl ?_
    refine Gol.ldcwInt X0 hx hby hZ hown d6_20 23 rfl (w 66 _ rfl) ?_
    refine Gol.icmpYes X0 hx hby d6_23 34 (by decide) (flt (by decide : ¬ ((65536 : Int32) < (1 : Int32)))).2.2.2 ?_
    refine Gol.iloadN X0 hx hby d6_34 35 rfl rfl ?_
    refine Gol.sipush X0 hx hby d6_35 38 rfl (z := (256 : Int32)) rfl ?_
    refine Gol.icmpYes X0 hx hby d6_38 49 (by decide) (flt (by decide : ¬ ((256 : Int32) < (1 : Int32)))).2.2.2 ?_
    refine Gol.iloadN X0 hx hby d6_49 50 rfl rfl ?_
    refine Gol.bipush X0 hx hby d6_50 52 rfl (z := (16 : Int32)) rfl ?_
    refine Gol.icmpYes X0 hx hby d6_52 62 (by decide) (flt (by decide : ¬ ((16 : Int32) < (1 : Int32)))).2.2.2 ?_
    refine Gol.iloadN X0 hx hby d6_62 63 rfl rfl ?_
    refine Gol.iconst X0 hx hby d6_63 64 rfl (z := (4 : Int32)) rfl ?_
    refine Gol.icmpYes X0 hx hby d6_64 74 (by decide) (flt (by decide : ¬ ((4 : Int32) < (1 : Int32)))).2.2.2 ?_
    refine Gol.iloadN X0 hx hby d6_74 75 rfl rfl ?_
    refine Gol.iloadN X0 hx hby d6_75 76 rfl rfl ?_
    refine Gol.iconst X0 hx hby d6_76 77 rfl (z := (1 : Int32)) rfl ?_
    refine Gol.iushr X0 hx hby d6_77 78 rfl (z := (0 : Int32)) (by decide +kernel) ?_
    refine Gol.iadd X0 hx hby d6_78 79 rfl (z := (1 : Int32)) rfl ?_
    exact Gol.retI X0 hx hby Bd.returns Bd.notSynchronized d6_79 eh0 ⟨congrArg (fun z => some (Value.int z)) (by decide : (1 : Int32) = nz 2), N0, rfl⟩ (by decide) (by decide)
  · skip
    show GolF _ _ _ _ _ _ _ s₁ m 0 #[vi 3, uu] []
    refine Gol.iloadN X0 hx hby d6_0 1 rfl rfl ?_
    refine Gol.iconst X0 hx hby d6_1 2 rfl (z := (-1 : Int32)) rfl ?_
    refine Gol.ixor X0 hx hby d6_2 3 rfl (z := (-4 : Int32)) rfl ?_
    refine Gol.iloadN X0 hx hby d6_3 4 rfl rfl ?_
    refine Gol.iconst X0 hx hby d6_4 5 rfl (z := (1 : Int32)) rfl ?_
    refine Gol.isub X0 hx hby d6_5 6 rfl (z := (2 : Int32)) rfl ?_
    refine Gol.iand X0 hx hby d6_6 7 rfl (z := (0 : Int32)) rfl ?_
    refine Gol.istoreN X0 hx hby d6_7 8 rfl (l' := #[vi 0, uu]) rfl ?_
    refine Gol.iloadN X0 hx hby d6_8 9 rfl rfl ?_
    refine Gol.ifNo X0 hx hby d6_9 12 rfl ((if0 _ _).trans (flt (by decide : ¬ ((0 : Int32) < (0 : Int32)))).2.2.1) ?_
    refine Gol.iloadN X0 hx hby d6_12 13 rfl rfl ?_
    refine Gol.bipush X0 hx hby d6_13 15 rfl (z := (32 : Int32)) rfl ?_
    refine Gol.iand X0 hx hby d6_15 16 rfl (z := (0 : Int32)) rfl ?_
    exact Gol.retI X0 hx hby Bd.returns Bd.notSynchronized d6_16 eh0 ⟨congrArg (fun z => some (Value.int z)) (by decide : (0 : Int32) = nz 3), N0, rfl⟩ (by decide) (by decide)
abbrev dc5 (i : Nat) (x : Instr) (n : Nat) : Prop := decode jdk_35_method_49_code i = .ok (x, n)
theorem d5_0 : dc5 0 (.lload_n 0) 1 := by decide +kernel
theorem d5_1 : dc5 1 .l2i 1 := by decide +kernel
theorem d5_2 : dc5 2 (.istore_n 2) 1 := by decide +kernel
theorem d5_3 : dc5 3 (.iload_n 2) 1 := by decide +kernel
theorem d5_4 : dc5 4 (.ifCond .ne 17) 3 := by decide +kernel
theorem d5_21 : dc5 21 (.iload_n 2) 1 := by decide +kernel
theorem d5_22 : dc5 22 (.invokestatic 311) 3 := by decide +kernel
theorem d5_25 : dc5 25 .ireturn 1 := by decide +kernel
theorem pn_5 : plainName "java/lang/Long" = true := by first | (simp [plainName, overriddenIn]; done) | decide +kernel
theorem ef_5 (m : MethodId) (q0 : Int64) : entryFrame m #[(.long q0)] 3 = mkF m 0 #[vj q0, ss, uu] [] := by first | (simp [entryFrame, mkF, argsToLocals, Value.category]; done) | rfl
abbrev Q5 (Z : State) (q0 : Int64) (h0 : Heap) (n0 : Nat) (v : Option Value) (h : Heap) (L : List Loc) : Prop := v = some (.int (nzL q0)) ∧ Fr n0 L ∧ h = h0
set_option maxRecDepth 65536 in
set_option maxHeartbeats 40000000 in
theorem rm5 (l : Launch) (Z : State) (a0 : Array Value) (hw : TW a0 Z) (ws : List Jvm.Cond) (q0 : Int64) (h0 : Heap) (n0 : Nat) (Zs : n0 ≤ h0.size) (hl : q0 = 1 ∨ q0 = 2 ∨ q0 = 3) :
    Mt l (⟨"java/lang/Long", "numberOfTrailingZeros", "(J)I"⟩ : MethodName) jdk_35_method_49_code 3 (some .int) ws (rmm 1 0 0 13) #[(.long q0)] Z h0 (Q5 Z q0 h0 n0) 0 0 := by
  refine own_body n0 (plainFor_of_name pn_5) hw (fun m => ef_5 m q0) ?_
  intro p ev s m below meth c s₁ Bd hZ hx hby hml hown X0 eh0 N0 w
  show GolF _ _ _ _ _ _ _ s₁ m 0 #[vj q0, ss, uu] []
  rcases hl with rfl | rfl | rfl
  · skip
    show GolF _ _ _ _ _ _ _ s₁ m 0 #[vj 1, ss, uu] []
    refine Gol.lloadN X0 hx hby d5_0 1 rfl rfl ?_
    refine Gol.l2i X0 hx hby d5_1 2 rfl (z := (1 : Int32)) (by decide +kernel) ?_
    refine Gol.istoreN X0 hx hby d5_2 3 rfl (l' := #[vj 1, ss, vi 1]) rfl ?_
    refine Gol.iloadN X0 hx hby d5_3 4 rfl rfl ?_
    refine Gol.ifYes X0 hx hby d5_4 21 (by decide) ((if0 _ _).trans (feq (by decide : ¬ ((1 : Int32) = (0 : Int32)))).2) ?_
    refine Gol.iloadN X0 hx hby d5_21 22 rfl rfl ?_
    refine Gol.callS X0 hx hby hZ hown 0 [(.int 1)] (w 62 _ rfl) (w 63 _ rfl) (w 64 _ rfl) (w 65 _ rfl) (by decide) (rm6 l Z a0 hw [] (1 : Int32)  h0 n0 Zs (Or.inl rfl)) (by decide) (by decide) eh0 (by rw [hml]; rfl) (rest := []) (Nat.le_of_eq rfl) (by decide) (by decide) (lenOf pd_6 rfl) rfl d5_22 25 rfl ?_
    intro T1 v1 L1 X1 hQ1
    obtain ⟨rfl, Nq1, eq1⟩ := hQ1
    have N1 := Fr.app N0 Nq1
    show GolF _ _ _ _ _ _ _ T1 m 25 #[vj 1, ss, vi 1] [(.int (nz 1))]
    rw [(by decide : nz 1 = 0)]
    show GolF _ _ _ _ _ _ _ T1 m 25 #[vj 1, ss, vi 1] [(.int 0)]
    exact Gol.retI X1 hx hby Bd.returns Bd.notSynchronized d5_25 eq1 ⟨congrArg (fun z => some (Value.int z)) (by decide : (0 : Int32) = nzL 1), N1, rfl⟩ (by decide) (by decide)
  · skip
    show GolF _ _ _ _ _ _ _ s₁ m 0 #[vj 2, ss, uu] []
    refine Gol.lloadN X0 hx hby d5_0 1 rfl rfl ?_
    refine Gol.l2i X0 hx hby d5_1 2 rfl (z := (2 : Int32)) (by decide +kernel) ?_
    refine Gol.istoreN X0 hx hby d5_2 3 rfl (l' := #[vj 2, ss, vi 2]) rfl ?_
    refine Gol.iloadN X0 hx hby d5_3 4 rfl rfl ?_
    refine Gol.ifYes X0 hx hby d5_4 21 (by decide) ((if0 _ _).trans (feq (by decide : ¬ ((2 : Int32) = (0 : Int32)))).2) ?_
    refine Gol.iloadN X0 hx hby d5_21 22 rfl rfl ?_
    refine Gol.callS X0 hx hby hZ hown 0 [(.int 2)] (w 62 _ rfl) (w 63 _ rfl) (w 64 _ rfl) (w 65 _ rfl) (by decide) (rm6 l Z a0 hw [] (2 : Int32)  h0 n0 Zs (Or.inr (Or.inl rfl))) (by decide) (by decide) eh0 (by rw [hml]; rfl) (rest := []) (Nat.le_of_eq rfl) (by decide) (by decide) (lenOf pd_6 rfl) rfl d5_22 25 rfl ?_
    intro T2 v2 L2 X2 hQ2
    obtain ⟨rfl, Nq2, eq2⟩ := hQ2
    have N2 := Fr.app N0 Nq2
    show GolF _ _ _ _ _ _ _ T2 m 25 #[vj 2, ss, vi 2] [(.int (nz 2))]
    rw [(by decide : nz 2 = 1)]
    show GolF _ _ _ _ _ _ _ T2 m 25 #[vj 2, ss, vi 2] [(.int 1)]
    exact Gol.retI X2 hx hby Bd.returns Bd.notSynchronized d5_25 eq2 ⟨congrArg (fun z => some (Value.int z)) (by decide : (1 : Int32) = nzL 2), N2, rfl⟩ (by decide) (by decide)
  · skip
    show GolF _ _ _ _ _ _ _ s₁ m 0 #[vj 3, ss, uu] []
    refine Gol.lloadN X0 hx hby d5_0 1 rfl rfl ?_
    refine Gol.l2i X0 hx hby d5_1 2 rfl (z := (3 : Int32)) (by decide +kernel) ?_
    refine Gol.istoreN X0 hx hby d5_2 3 rfl (l' := #[vj 3, ss, vi 3]) rfl ?_
    refine Gol.iloadN X0 hx hby d5_3 4 rfl rfl ?_
    refine Gol.ifYes X0 hx hby d5_4 21 (by decide) ((if0 _ _).trans (feq (by decide : ¬ ((3 : Int32) = (0 : Int32)))).2) ?_
    refine Gol.iloadN X0 hx hby d5_21 22 rfl rfl ?_
    refine Gol.callS X0 hx hby hZ hown 0 [(.int 3)] (w 62 _ rfl) (w 63 _ rfl) (w 64 _ rfl) (w 65 _ rfl) (by decide) (rm6 l Z a0 hw [] (3 : Int32)  h0 n0 Zs (Or.inr (Or.inr rfl))) (by decide) (by decide) eh0 (by rw [hml]; rfl) (rest := []) (Nat.le_of_eq rfl) (by decide) (by decide) (lenOf pd_6 rfl) rfl d5_22 25 rfl ?_
    intro T3 v3 L3 X3 hQ3
    obtain ⟨rfl, Nq3, eq3⟩ := hQ3
    have N3 := Fr.app N0 Nq3
    show GolF _ _ _ _ _ _ _ T3 m 25 #[vj 3, ss, vi 3] [(.int (nz 3))]
    rw [(by decide : nz 3 = 0)]
    show GolF _ _ _ _ _ _ _ T3 m 25 #[vj 3, ss, vi 3] [(.int 0)]
    exact Gol.retI X3 hx hby Bd.returns Bd.notSynchronized d5_25 eq3 ⟨congrArg (fun z => some (Value.int z)) (by decide : (0 : Int32) = nzL 3), N3, rfl⟩ (by decide) (by decide)
abbrev prf (a nd0 nd1 tk0 tk1 : Int32) : Int64 := (f1 0 (sel a nd0 nd1 - sel a tk0 tk1)).toInt64
theorem own_pb (a n0 n1 t0 t1 : Int32) : B53 (prf a n0 n1 t0 t1) := own_b53 _
theorem own_cmpT {a : Int64} (h : 0 < a.toInt) (hb : B53 a) (o : CmpOp) : cmpValue (FP.dcmp (FP.l2d a) 4472406533629990549) o = 1 := by rw [own_tol h hb]; cases o <;> rfl
theorem own_f1 {x : Int32} (h : 0 < (f1 0 x).toInt64.toInt) : f1 0 x = x := by
  unfold f1 at h ⊢
  split
  · rfl
  · rename_i q; rw [if_neg q] at h; exact absurd h (by decide)
theorem own_i2p {a n0 n1 t0 t1 : Int32} (h : 0 < (prf a n0 n1 t0 t1).toInt) : FP.i2d (sel a n0 n1 - sel a t0 t1) = FP.l2d (prf a n0 n1 t0 t1) := by
  rw [own_i2d]; unfold prf; rw [own_f1 h]
theorem own_mb {M : Int64} {x : Int32} (h : 0 ≤ M.toInt ∧ M.toInt ≤ x.toInt) : B53 M := by
  have := Int32.toInt_lt x
  exact (⟨by omega, by omega⟩ : -9007199254740992 < M.toInt ∧ M.toInt < 9007199254740992)

abbrev dc9 (i : Nat) (x : Instr) (n : Nat) : Prop := decode jdk_65_method_113_code i = .ok (x, n)
theorem d9_0 : dc9 0 (.iconst 0) 1 := by decide +kernel
theorem d9_1 : dc9 1 (.istore_n 3) 1 := by decide +kernel
theorem d9_2 : dc9 2 (.aload_n 0) 1 := by decide +kernel
theorem d9_3 : dc9 3 .arraylength 1 := by decide +kernel
theorem d9_4 : dc9 4 (.istore 4) 2 := by decide +kernel
theorem d9_6 : dc9 6 (.iload_n 3) 1 := by decide +kernel
theorem d9_7 : dc9 7 (.iload 4) 2 := by decide +kernel
theorem d9_9 : dc9 9 (.if_icmp .ge 13) 3 := by decide +kernel
theorem d9_12 : dc9 12 (.aload_n 0) 1 := by decide +kernel
theorem d9_13 : dc9 13 (.iload_n 3) 1 := by decide +kernel
theorem d9_14 : dc9 14 (.dload_n 1) 1 := by decide +kernel
theorem d9_15 : dc9 15 .dastore 1 := by decide +kernel
theorem d9_16 : dc9 16 (.iinc 3 1) 3 := by decide +kernel
theorem d9_19 : dc9 19 (.goto (-13)) 3 := by decide +kernel
theorem d9_22 : dc9 22 .return_ 1 := by decide +kernel
theorem pn_9 : plainName "java/util/Arrays" = true := by first | (simp [plainName, overriddenIn]; done) | decide +kernel
theorem ef_FillD (m : MethodId) (r0 : Addr) (u1 : UInt64) : entryFrame m #[(.ref r0), (.double u1)] 5 = mkF m 0 #[vr r0, vd u1, ss, uu, uu] [] := by first | (simp [entryFrame, mkF, argsToLocals, Value.category]; done) | rfl
abbrev QFillD (Z : State) (r0 : Addr) (u1 : UInt64) (x0 x1 : Value) (h0 : Heap) (n0 : Nat) (v : Option Value) (h : Heap) (L : List Loc) : Prop := v = none ∧ Fr n0 L ∧ Keep h0 h [r0] ∧ Vv Z h r0 .double (2 : Int32) [(.double u1), (.double u1)] (.double 0)
set_option maxRecDepth 65536 in
set_option maxHeartbeats 40000000 in
theorem rmFillD (l : Launch) (Z : State) (a0 : Array Value) (hw : TW a0 Z) (ws : List Jvm.Cond) (r0 : Addr) (u1 : UInt64) (x0 x1 : Value) (h0 : Heap) (n0 : Nat) (Zs : n0 ≤ h0.size) (P0 : Vv Z h0 r0 .double (2 : Int32) [x0, x1] (.double 0)) (g_r0 : n0 ≤ r0) :
    Mt l (⟨"java/util/Arrays", "fill", "([DD)V"⟩ : MethodName) jdk_65_method_113_code 5 none ws (rmm 0 0 0 0) #[(.ref r0), (.double u1)] Z h0 (QFillD Z r0 u1 x0 x1 h0 n0) 0 0 := by
  refine own_body n0 (plainFor_of_name pn_9) hw (fun m => ef_FillD m r0 u1) ?_
  intro p ev s m below meth c s₁ Bd hZ hx hby hml hown X0 eh0 N0 w
  obtain ⟨kr0, V_r0⟩ := P0
  have K := Keep.refl h0 [r0]
  show GolF _ _ _ _ _ _ _ s₁ m 0 #[vr r0, vd u1, ss, uu, uu] []
  refine Gol.iconst X0 hx hby d9_0 1 rfl (z := (0 : Int32)) rfl ?_
  refine Gol.istoreN X0 hx hby d9_1 2 rfl (l' := #[vr r0, vd u1, ss, vi 0, uu]) rfl ?_
  refine Gol.aloadN X0 hx hby d9_2 3 rfl rfl rfl ?_
  refine Gol.alen X0 hx hby hZ eh0 V_r0 d9_3 4 rfl ?_
  refine Gol.istore X0 hx hby d9_4 6 rfl (l' := #[vr r0, vd u1, ss, vi 0, vi 2]) rfl ?_
  refine Gol.iloadN X0 hx hby d9_6 7 rfl rfl ?_
  refine Gol.iload X0 hx hby d9_7 9 rfl rfl ?_
  refine Gol.icmpNo X0 hx hby d9_9 12 rfl (tlt (by decide : (0 : Int32) < (2 : Int32))).2.1 ?_
  refine Gol.aloadN X0 hx hby d9_12 13 rfl rfl rfl ?_
  refine Gol.iloadN X0 hx hby d9_13 14 rfl rfl ?_
  refine Gol.dloadN X0 hx hby d9_14 15 rfl rfl ?_
  refine Gol.dastore X0 hx hby hZ eh0 V_r0 d9_15 16 rfl ⟨by decide, by decide⟩ 0 rfl (Nat.le_of_ble_eq_true rfl) ?_
  intro T1 h1 X1 e1 W1 A1
  have V_r0 : Arv Z h1 r0 kr0 .double (2 : Int32) [(.double u1), x1] (.double 0) := A1
  have K := K.wr W1 (Or.inl (List.mem_of_getElem? (i := 0) rfl))
  have N1 := Fr.snoc X1 N0 g_r0
  refine Gol.iinc X1 hx hby d9_16 19 rfl rfl (l' := #[vr r0, vd u1, ss, vi 1, vi 2]) rfl ?_
  refine Gol.goto X1 hx hby d9_19 6 (by decide) ?_
  refine Gol.iloadN X1 hx hby d9_6 7 rfl rfl ?_
  refine Gol.iload X1 hx hby d9_7 9 rfl rfl ?_
  refine Gol.icmpNo X1 hx hby d9_9 12 rfl (tlt (by decide : (1 : Int32) < (2 : Int32))).2.1 ?_
  refine Gol.aloadN X1 hx hby d9_12 13 rfl rfl rfl ?_
  refine Gol.iloadN X1 hx hby d9_13 14 rfl rfl ?_
  refine Gol.dloadN X1 hx hby d9_14 15 rfl rfl ?_
  refine Gol.dastore X1 hx hby hZ e1 V_r0 d9_15 16 rfl ⟨by decide, by decide⟩ 1 rfl (Nat.le_of_ble_eq_true rfl) ?_
  intro T2 h2 X2 e2 W2 A2
  have V_r0 : Arv Z h2 r0 kr0 .double (2 : Int32) [(.double u1), (.double u1)] (.double 0) := A2
  have K := K.wr W2 (Or.inl (List.mem_of_getElem? (i := 0) rfl))
  have N2 := Fr.snoc X2 N1 g_r0
  refine Gol.iinc X2 hx hby d9_16 19 rfl rfl (l' := #[vr r0, vd u1, ss, vi 2, vi 2]) rfl ?_
  refine Gol.goto X2 hx hby d9_19 6 (by decide) ?_
  refine Gol.iloadN X2 hx hby d9_6 7 rfl rfl ?_
  refine Gol.iload X2 hx hby d9_7 9 rfl rfl ?_
  refine Gol.icmpYes X2 hx hby d9_9 22 (by decide) (flt (by decide : ¬ ((2 : Int32) < (2 : Int32)))).2.1 ?_
  exact Gol.ret0 X2 hx hby Bd.returns Bd.notSynchronized d9_22 e2 ⟨rfl, N2, K, _, V_r0⟩ (by decide) (by decide)
abbrev dc8 (i : Nat) (x : Instr) (n : Nat) : Prop := decode jdk_65_method_103_code i = .ok (x, n)
theorem d8_0 : dc8 0 (.iconst 0) 1 := by decide +kernel
theorem d8_1 : dc8 1 (.istore_n 2) 1 := by decide +kernel
theorem d8_2 : dc8 2 (.aload_n 0) 1 := by decide +kernel
theorem d8_3 : dc8 3 .arraylength 1 := by decide +kernel
theorem d8_4 : dc8 4 (.istore_n 3) 1 := by decide +kernel
theorem d8_5 : dc8 5 (.iload_n 2) 1 := by decide +kernel
theorem d8_6 : dc8 6 (.iload_n 3) 1 := by decide +kernel
theorem d8_7 : dc8 7 (.if_icmp .ge 13) 3 := by decide +kernel
theorem d8_10 : dc8 10 (.aload_n 0) 1 := by decide +kernel
theorem d8_11 : dc8 11 (.iload_n 2) 1 := by decide +kernel
theorem d8_12 : dc8 12 (.iload_n 1) 1 := by decide +kernel
theorem d8_13 : dc8 13 .iastore 1 := by decide +kernel
theorem d8_14 : dc8 14 (.iinc 2 1) 3 := by decide +kernel
theorem d8_17 : dc8 17 (.goto (-12)) 3 := by decide +kernel
theorem d8_20 : dc8 20 .return_ 1 := by decide +kernel
theorem pn_8 : plainName "java/util/Arrays" = true := by first | (simp [plainName, overriddenIn]; done) | decide +kernel
theorem ef_FillI (m : MethodId) (r0 : Addr) (p1 : Int32) : entryFrame m #[(.ref r0), (.int p1)] 4 = mkF m 0 #[vr r0, vi p1, uu, uu] [] := by first | (simp [entryFrame, mkF, argsToLocals, Value.category]; done) | rfl
abbrev QFillI (Z : State) (r0 : Addr) (p1 : Int32) (x0 x1 x2 x3 x4 x5 : Value) (h0 : Heap) (n0 : Nat) (v : Option Value) (h : Heap) (L : List Loc) : Prop := v = none ∧ Fr n0 L ∧ Keep h0 h [r0] ∧ Vv Z h r0 .int (6 : Int32) [(.int p1), (.int p1), (.int p1), (.int p1), (.int p1), (.int p1)] (.int 0)
set_option maxRecDepth 65536 in
set_option maxHeartbeats 40000000 in
theorem rmFillI (l : Launch) (Z : State) (a0 : Array Value) (hw : TW a0 Z) (ws : List Jvm.Cond) (r0 : Addr) (p1 : Int32) (x0 x1 x2 x3 x4 x5 : Value) (h0 : Heap) (n0 : Nat) (Zs : n0 ≤ h0.size) (P0 : Vv Z h0 r0 .int (6 : Int32) [x0, x1, x2, x3, x4, x5] (.int 0)) (g_r0 : n0 ≤ r0) :
    Mt l (⟨"java/util/Arrays", "fill", "([II)V"⟩ : MethodName) jdk_65_method_103_code 4 none ws (rmm 0 0 0 0) #[(.ref r0), (.int p1)] Z h0 (QFillI Z r0 p1 x0 x1 x2 x3 x4 x5 h0 n0) 0 0 := by
  refine own_body n0 (plainFor_of_name pn_8) hw (fun m => ef_FillI m r0 p1) ?_
  intro p ev s m below meth c s₁ Bd hZ hx hby hml hown X0 eh0 N0 w
  obtain ⟨kr0, V_r0⟩ := P0
  have K := Keep.refl h0 [r0]
  show GolF _ _ _ _ _ _ _ s₁ m 0 #[vr r0, vi p1, uu, uu] []
  refine Gol.iconst X0 hx hby d8_0 1 rfl (z := (0 : Int32)) rfl ?_
  refine Gol.istoreN X0 hx hby d8_1 2 rfl (l' := #[vr r0, vi p1, vi 0, uu]) rfl ?_
  refine Gol.aloadN X0 hx hby d8_2 3 rfl rfl rfl ?_
  refine Gol.alen X0 hx hby hZ eh0 V_r0 d8_3 4 rfl ?_
  refine Gol.istoreN X0 hx hby d8_4 5 rfl (l' := #[vr r0, vi p1, vi 0, vi 6]) rfl ?_
  refine Gol.iloadN X0 hx hby d8_5 6 rfl rfl ?_
  refine Gol.iloadN X0 hx hby d8_6 7 rfl rfl ?_
  refine Gol.icmpNo X0 hx hby d8_7 10 rfl (tlt (by decide : (0 : Int32) < (6 : Int32))).2.1 ?_
  refine Gol.aloadN X0 hx hby d8_10 11 rfl rfl rfl ?_
  refine Gol.iloadN X0 hx hby d8_11 12 rfl rfl ?_
  refine Gol.iloadN X0 hx hby d8_12 13 rfl rfl ?_
  refine Gol.iastore X0 hx hby hZ eh0 V_r0 d8_13 14 rfl ⟨by decide, by decide⟩ 0 rfl (Nat.le_of_ble_eq_true rfl) ?_
  intro T1 h1 X1 e1 W1 A1
  have V_r0 : Arv Z h1 r0 kr0 .int (6 : Int32) [(.int p1), x1, x2, x3, x4, x5] (.int 0) := A1
  have K := K.wr W1 (Or.inl (List.mem_of_getElem? (i := 0) rfl))
  have N1 := Fr.snoc X1 N0 g_r0
  refine Gol.iinc X1 hx hby d8_14 17 rfl rfl (l' := #[vr r0, vi p1, vi 1, vi 6]) rfl ?_
  refine Gol.goto X1 hx hby d8_17 5 (by decide) ?_
  refine Gol.iloadN X1 hx hby d8_5 6 rfl rfl ?_
  refine Gol.iloadN X1 hx hby d8_6 7 rfl rfl ?_
  refine Gol.icmpNo X1 hx hby d8_7 10 rfl (tlt (by decide : (1 : Int32) < (6 : Int32))).2.1 ?_
  refine Gol.aloadN X1 hx hby d8_10 11 rfl rfl rfl ?_
  refine Gol.iloadN X1 hx hby d8_11 12 rfl rfl ?_
  refine Gol.iloadN X1 hx hby d8_12 13 rfl rfl ?_
  refine Gol.iastore X1 hx hby hZ e1 V_r0 d8_13 14 rfl ⟨by decide, by decide⟩ 1 rfl (Nat.le_of_ble_eq_true rfl) ?_
  intro T2 h2 X2 e2 W2 A2
  have V_r0 : Arv Z h2 r0 kr0 .int (6 : Int32) [(.int p1), (.int p1), x2, x3, x4, x5] (.int 0) := A2
  have K := K.wr W2 (Or.inl (List.mem_of_getElem? (i := 0) rfl))
  have N2 := Fr.snoc X2 N1 g_r0
  refine Gol.iinc X2 hx hby d8_14 17 rfl rfl (l' := #[vr r0, vi p1, vi 2, vi 6]) rfl ?_
  refine Gol.goto X2 hx hby d8_17 5 (by decide) ?_
  refine Gol.iloadN X2 hx hby d8_5 6 rfl rfl ?_
  refine Gol.iloadN X2 hx hby d8_6 7 rfl rfl ?_
  refine Gol.icmpNo X2 hx hby d8_7 10 rfl (tlt (by decide : (2 : Int32) < (6 : Int32))).2.1 ?_
  refine Gol.aloadN X2 hx hby d8_10 11 rfl rfl rfl ?_
  refine Gol.iloadN X2 hx hby d8_11 12 rfl rfl ?_
  refine Gol.iloadN X2 hx hby d8_12 13 rfl rfl ?_
  refine Gol.iastore X2 hx hby hZ e2 V_r0 d8_13 14 rfl ⟨by decide, by decide⟩ 2 rfl (Nat.le_of_ble_eq_true rfl) ?_
  intro T3 h3 X3 e3 W3 A3
  have V_r0 : Arv Z h3 r0 kr0 .int (6 : Int32) [(.int p1), (.int p1), (.int p1), x3, x4, x5] (.int 0) := A3
  have K := K.wr W3 (Or.inl (List.mem_of_getElem? (i := 0) rfl))
  have N3 := Fr.snoc X3 N2 g_r0
  refine Gol.iinc X3 hx hby d8_14 17 rfl rfl (l' := #[vr r0, vi p1, vi 3, vi 6]) rfl ?_
  refine Gol.goto X3 hx hby d8_17 5 (by decide) ?_
  refine Gol.iloadN X3 hx hby d8_5 6 rfl rfl ?_
  refine Gol.iloadN X3 hx hby d8_6 7 rfl rfl ?_
  refine Gol.icmpNo X3 hx hby d8_7 10 rfl (tlt (by decide : (3 : Int32) < (6 : Int32))).2.1 ?_
  refine Gol.aloadN X3 hx hby d8_10 11 rfl rfl rfl ?_
  refine Gol.iloadN X3 hx hby d8_11 12 rfl rfl ?_
  refine Gol.iloadN X3 hx hby d8_12 13 rfl rfl ?_
  refine Gol.iastore X3 hx hby hZ e3 V_r0 d8_13 14 rfl ⟨by decide, by decide⟩ 3 rfl (Nat.le_of_ble_eq_true rfl) ?_
  intro T4 h4 X4 e4 W4 A4
  have V_r0 : Arv Z h4 r0 kr0 .int (6 : Int32) [(.int p1), (.int p1), (.int p1), (.int p1), x4, x5] (.int 0) := A4
  have K := K.wr W4 (Or.inl (List.mem_of_getElem? (i := 0) rfl))
  have N4 := Fr.snoc X4 N3 g_r0
  refine Gol.iinc X4 hx hby d8_14 17 rfl rfl (l' := #[vr r0, vi p1, vi 4, vi 6]) rfl ?_
  refine Gol.goto X4 hx hby d8_17 5 (by decide) ?_
  refine Gol.iloadN X4 hx hby d8_5 6 rfl rfl ?_
  refine Gol.iloadN X4 hx hby d8_6 7 rfl rfl ?_
  refine Gol.icmpNo X4 hx hby d8_7 10 rfl (tlt (by decide : (4 : Int32) < (6 : Int32))).2.1 ?_
  refine Gol.aloadN X4 hx hby d8_10 11 rfl rfl rfl ?_
  refine Gol.iloadN X4 hx hby d8_11 12 rfl rfl ?_
  refine Gol.iloadN X4 hx hby d8_12 13 rfl rfl ?_
  refine Gol.iastore X4 hx hby hZ e4 V_r0 d8_13 14 rfl ⟨by decide, by decide⟩ 4 rfl (Nat.le_of_ble_eq_true rfl) ?_
  intro T5 h5 X5 e5 W5 A5
  have V_r0 : Arv Z h5 r0 kr0 .int (6 : Int32) [(.int p1), (.int p1), (.int p1), (.int p1), (.int p1), x5] (.int 0) := A5
  have K := K.wr W5 (Or.inl (List.mem_of_getElem? (i := 0) rfl))
  have N5 := Fr.snoc X5 N4 g_r0
  refine Gol.iinc X5 hx hby d8_14 17 rfl rfl (l' := #[vr r0, vi p1, vi 5, vi 6]) rfl ?_
  refine Gol.goto X5 hx hby d8_17 5 (by decide) ?_
  refine Gol.iloadN X5 hx hby d8_5 6 rfl rfl ?_
  refine Gol.iloadN X5 hx hby d8_6 7 rfl rfl ?_
  refine Gol.icmpNo X5 hx hby d8_7 10 rfl (tlt (by decide : (5 : Int32) < (6 : Int32))).2.1 ?_
  refine Gol.aloadN X5 hx hby d8_10 11 rfl rfl rfl ?_
  refine Gol.iloadN X5 hx hby d8_11 12 rfl rfl ?_
  refine Gol.iloadN X5 hx hby d8_12 13 rfl rfl ?_
  refine Gol.iastore X5 hx hby hZ e5 V_r0 d8_13 14 rfl ⟨by decide, by decide⟩ 5 rfl (Nat.le_of_ble_eq_true rfl) ?_
  intro T6 h6 X6 e6 W6 A6
  have V_r0 : Arv Z h6 r0 kr0 .int (6 : Int32) [(.int p1), (.int p1), (.int p1), (.int p1), (.int p1), (.int p1)] (.int 0) := A6
  have K := K.wr W6 (Or.inl (List.mem_of_getElem? (i := 0) rfl))
  have N6 := Fr.snoc X6 N5 g_r0
  refine Gol.iinc X6 hx hby d8_14 17 rfl rfl (l' := #[vr r0, vi p1, vi 6, vi 6]) rfl ?_
  refine Gol.goto X6 hx hby d8_17 5 (by decide) ?_
  refine Gol.iloadN X6 hx hby d8_5 6 rfl rfl ?_
  refine Gol.iloadN X6 hx hby d8_6 7 rfl rfl ?_
  refine Gol.icmpYes X6 hx hby d8_7 20 (by decide) (flt (by decide : ¬ ((6 : Int32) < (6 : Int32)))).2.1 ?_
  exact Gol.ret0 X6 hx hby Bd.returns Bd.notSynchronized d8_20 e6 ⟨rfl, N6, K, _, V_r0⟩ (by decide) (by decide)
abbrev dc12 (i : Nat) (x : Instr) (n : Nat) : Prop := decode prog_8_method_11_code i = .ok (x, n)
theorem d12_0 : dc12 0 (.dconst 0) 1 := by decide +kernel
theorem d12_1 : dc12 1 (.dstore_n 2) 1 := by decide +kernel
theorem d12_2 : dc12 2 (.iload_n 1) 1 := by decide +kernel
theorem d12_3 : dc12 3 (.aload_n 0) 1 := by decide +kernel
theorem d12_4 : dc12 4 (.getfield 54) 3 := by decide +kernel
theorem d12_7 : dc12 7 (.if_icmp .ge 25) 3 := by decide +kernel
theorem d12_32 : dc12 32 (.iload_n 1) 1 := by decide +kernel
theorem d12_33 : dc12 33 (.aload_n 0) 1 := by decide +kernel
theorem d12_34 : dc12 34 (.getfield 54) 3 := by decide +kernel
theorem d12_37 : dc12 37 (.aload_n 0) 1 := by decide +kernel
theorem d12_38 : dc12 38 (.getfield 39) 3 := by decide +kernel
theorem d12_41 : dc12 41 .iadd 1 := by decide +kernel
theorem d12_42 : dc12 42 (.if_icmp .ge 35) 3 := by decide +kernel
theorem d12_77 : dc12 77 (.dload_n 2) 1 := by decide +kernel
theorem d12_78 : dc12 78 .dreturn 1 := by decide +kernel
theorem pn_12 : plainName "com/example/quorumstone/quorumstone/check/Relaxation" = true := by first | (simp [plainName, overriddenIn]; done) | decide +kernel
theorem ef_Pro4 (m : MethodId)  (A : Nat → Addr) : entryFrame m #[(.ref (A 0)), (.int 4)] 4 = mkF m 0 #[vr (A 0), vi 4, uu, uu] [] := by first | (simp [entryFrame, mkF, argsToLocals, Value.category]; done) | rfl
abbrev QPro4 (Z : State) (A : Nat → Addr) (pp cc nx wk ps : Int32) (un : Int64) (op : Int32) (h0 : Heap) (n0 : Nat) (v : Option Value) (h : Heap) (L : List Loc) : Prop := v = some (.double (0 : UInt64)) ∧ Fr n0 L ∧ h = h0
set_option maxRecDepth 65536 in
set_option maxHeartbeats 40000000 in
theorem rmPro4 (l : Launch) (Z : State) (a0 : Array Value) (hw : TW a0 Z) (ws : List Jvm.Cond) (A : Nat → Addr) (pp cc nx wk ps : Int32) (un : Int64) (op : Int32) (h0 : Heap) (n0 : Nat) (Zs : n0 ≤ h0.size) (B_A0 : FL Z h0 (A 0) (rxv A pp cc nx wk ps un op)) :
    Mt l (⟨"com/example/quorumstone/quorumstone/check/Relaxation", "profit", "(I)D"⟩ : MethodName) prog_8_method_11_code 4 (some .double) ws (rmm 0 0 0 0) #[(.ref (A 0)), (.int 4)] Z h0 (QPro4 Z A pp cc nx wk ps un op h0 n0) 0 0 := by
  refine own_body n0 (plainFor_of_name pn_12) hw (fun m => ef_Pro4 m  A) ?_
  intro p ev s m below meth c s₁ Bd hZ hx hby hml hown X0 eh0 N0 w
  show GolF _ _ _ _ _ _ _ s₁ m 0 #[vr (A 0), vi 4, uu, uu] []
  refine Gol.dconst0 X0 hx hby d12_0 1 rfl (v := (0 : UInt64)) (by decide +kernel) ?_
  refine Gol.dstoreN X0 hx hby d12_1 2 rfl (l' := #[vr (A 0), vi 4, vd 0, ss]) rfl ?_
  refine Gol.iloadN X0 hx hby d12_2 3 rfl rfl ?_
  refine Gol.fB X0 hx hby hZ hown (w 46 _ rfl) eh0 B_A0 11 d12_3 d12_4 7 rfl rfl rfl rfl ?_
  intro T1 X1 e1
  refine Gol.icmpYes X1 hx hby d12_7 32 (by decide) (flt (by decide : ¬ ((4 : Int32) < (2 : Int32)))).2.1 ?_
  refine Gol.iloadN X1 hx hby d12_32 33 rfl rfl ?_
  refine Gol.fB X1 hx hby hZ hown (w 46 _ rfl) e1 B_A0 11 d12_33 d12_34 37 rfl rfl rfl rfl ?_
  intro T2 X2 e2
  refine Gol.fB X2 hx hby hZ hown (w 36 _ rfl) e2 B_A0 6 d12_37 d12_38 41 rfl rfl rfl rfl ?_
  intro T3 X3 e3
  refine Gol.iadd X3 hx hby d12_41 42 rfl (z := (4 : Int32)) rfl ?_
  refine Gol.icmpYes X3 hx hby d12_42 77 (by decide) (flt (by decide : ¬ ((4 : Int32) < (4 : Int32)))).2.1 ?_
  refine Gol.dloadN X3 hx hby d12_77 78 rfl rfl ?_
  exact Gol.retD X3 hx hby Bd.returns Bd.notSynchronized d12_78 e3 ⟨rfl, N0, rfl⟩ (by decide) (by decide)
theorem ef_Pro5 (m : MethodId)  (A : Nat → Addr) : entryFrame m #[(.ref (A 0)), (.int 5)] 4 = mkF m 0 #[vr (A 0), vi 5, uu, uu] [] := by first | (simp [entryFrame, mkF, argsToLocals, Value.category]; done) | rfl
abbrev QPro5 (Z : State) (A : Nat → Addr) (pp cc nx wk ps : Int32) (un : Int64) (op : Int32) (h0 : Heap) (n0 : Nat) (v : Option Value) (h : Heap) (L : List Loc) : Prop := v = some (.double (0 : UInt64)) ∧ Fr n0 L ∧ h = h0
set_option maxRecDepth 65536 in
set_option maxHeartbeats 40000000 in
theorem rmPro5 (l : Launch) (Z : State) (a0 : Array Value) (hw : TW a0 Z) (ws : List Jvm.Cond) (A : Nat → Addr) (pp cc nx wk ps : Int32) (un : Int64) (op : Int32) (h0 : Heap) (n0 : Nat) (Zs : n0 ≤ h0.size) (B_A0 : FL Z h0 (A 0) (rxv A pp cc nx wk ps un op)) :
    Mt l (⟨"com/example/quorumstone/quorumstone/check/Relaxation", "profit", "(I)D"⟩ : MethodName) prog_8_method_11_code 4 (some .double) ws (rmm 0 0 0 0) #[(.ref (A 0)), (.int 5)] Z h0 (QPro5 Z A pp cc nx wk ps un op h0 n0) 0 0 := by
  refine own_body n0 (plainFor_of_name pn_12) hw (fun m => ef_Pro5 m  A) ?_
  intro p ev s m below meth c s₁ Bd hZ hx hby hml hown X0 eh0 N0 w
  show GolF _ _ _ _ _ _ _ s₁ m 0 #[vr (A 0), vi 5, uu, uu] []
  refine Gol.dconst0 X0 hx hby d12_0 1 rfl (v := (0 : UInt64)) (by decide +kernel) ?_
  refine Gol.dstoreN X0 hx hby d12_1 2 rfl (l' := #[vr (A 0), vi 5, vd 0, ss]) rfl ?_
  refine Gol.iloadN X0 hx hby d12_2 3 rfl rfl ?_
  refine Gol.fB X0 hx hby hZ hown (w 46 _ rfl) eh0 B_A0 11 d12_3 d12_4 7 rfl rfl rfl rfl ?_
  intro T1 X1 e1
  refine Gol.icmpYes X1 hx hby d12_7 32 (by decide) (flt (by decide : ¬ ((5 : Int32) < (2 : Int32)))).2.1 ?_
  refine Gol.iloadN X1 hx hby d12_32 33 rfl rfl ?_
  refine Gol.fB X1 hx hby hZ hown (w 46 _ rfl) e1 B_A0 11 d12_33 d12_34 37 rfl rfl rfl rfl ?_
  intro T2 X2 e2
  refine Gol.fB X2 hx hby hZ hown (w 36 _ rfl) e2 B_A0 6 d12_37 d12_38 41 rfl rfl rfl rfl ?_
  intro T3 X3 e3
  refine Gol.iadd X3 hx hby d12_41 42 rfl (z := (4 : Int32)) rfl ?_
  refine Gol.icmpYes X3 hx hby d12_42 77 (by decide) (flt (by decide : ¬ ((5 : Int32) < (4 : Int32)))).2.1 ?_
  refine Gol.dloadN X3 hx hby d12_77 78 rfl rfl ?_
  exact Gol.retD X3 hx hby Bd.returns Bd.notSynchronized d12_78 e3 ⟨rfl, N0, rfl⟩ (by decide) (by decide)
theorem d12_45 : dc12 45 (.aload_n 0) 1 := by decide +kernel
theorem d12_46 : dc12 46 (.getfield 99) 3 := by decide +kernel
theorem d12_49 : dc12 49 (.iload_n 1) 1 := by decide +kernel
theorem d12_50 : dc12 50 (.aload_n 0) 1 := by decide +kernel
theorem d12_51 : dc12 51 (.getfield 54) 3 := by decide +kernel
theorem d12_54 : dc12 54 .isub 1 := by decide +kernel
theorem d12_55 : dc12 55 .lushr 1 := by decide +kernel
theorem d12_56 : dc12 56 (.lconst 1) 1 := by decide +kernel
theorem d12_57 : dc12 57 .land 1 := by decide +kernel
theorem d12_58 : dc12 58 (.lconst 0) 1 := by decide +kernel
theorem d12_59 : dc12 59 .lcmp 1 := by decide +kernel
theorem d12_60 : dc12 60 (.ifCond .eq 17) 3 := by decide +kernel
theorem d12_63 : dc12 63 (.aload_n 0) 1 := by decide +kernel
theorem d12_64 : dc12 64 (.getfield 42) 3 := by decide +kernel
theorem d12_67 : dc12 67 (.iload_n 1) 1 := by decide +kernel
theorem d12_68 : dc12 68 (.aload_n 0) 1 := by decide +kernel
theorem d12_69 : dc12 69 (.getfield 54) 3 := by decide +kernel
theorem d12_72 : dc12 72 .isub 1 := by decide +kernel
theorem d12_73 : dc12 73 .iaload 1 := by decide +kernel
theorem d12_74 : dc12 74 .ineg 1 := by decide +kernel
theorem d12_75 : dc12 75 .i2d 1 := by decide +kernel
theorem d12_76 : dc12 76 (.dstore_n 2) 1 := by decide +kernel
theorem ef_Pro2 (m : MethodId)  (A : Nat → Addr) : entryFrame m #[(.ref (A 0)), (.int 2)] 4 = mkF m 0 #[vr (A 0), vi 2, uu, uu] [] := by first | (simp [entryFrame, mkF, argsToLocals, Value.category]; done) | rfl
abbrev QPro2 (Z : State) (A : Nat → Addr) (pp cc nx wk ps op s0 s1 : Int32) (h0 : Heap) (n0 : Nat) (v : Option Value) (h : Heap) (L : List Loc) : Prop := v = some (.double (FP.l2d ((-s0)).toInt64)) ∧ Fr n0 L ∧ h = h0
set_option maxRecDepth 65536 in
set_option maxHeartbeats 40000000 in
theorem rmPro2 (l : Launch) (Z : State) (a0 : Array Value) (hw : TW a0 Z) (ws : List Jvm.Cond) (A : Nat → Addr) (pp cc nx wk ps op s0 s1 : Int32) (h0 : Heap) (n0 : Nat) (Zs : n0 ≤ h0.size) (B_A0 : FL Z h0 (A 0) (rxv A pp cc nx wk ps (3 : Int64) op)) (P1 : Vv Z h0 (A 1) .int (2 : Int32) [(.int s0), (.int s1)] (.int 0)) :
    Mt l (⟨"com/example/quorumstone/quorumstone/check/Relaxation", "profit", "(I)D"⟩ : MethodName) prog_8_method_11_code 4 (some .double) ws (rmm 0 0 0 0) #[(.ref (A 0)), (.int 2)] Z h0 (QPro2 Z A pp cc nx wk ps op s0 s1 h0 n0) 0 0 := by
  refine own_body n0 (plainFor_of_name pn_12) hw (fun m => ef_Pro2 m  A) ?_
  intro p ev s m below meth c s₁ Bd hZ hx hby hml hown X0 eh0 N0 w
  obtain ⟨k_A1, V_A1⟩ := P1
  show GolF _ _ _ _ _ _ _ s₁ m 0 #[vr (A 0), vi 2, uu, uu] []
  refine Gol.dconst0 X0 hx hby d12_0 1 rfl (v := (0 : UInt64)) (by decide +kernel) ?_
  refine Gol.dstoreN X0 hx hby d12_1 2 rfl (l' := #[vr (A 0), vi 2, vd 0, ss]) rfl ?_
  refine Gol.iloadN X0 hx hby d12_2 3 rfl rfl ?_
  refine Gol.fB X0 hx hby hZ hown (w 46 _ rfl) eh0 B_A0 11 d12_3 d12_4 7 rfl rfl rfl rfl ?_
  intro T1 X1 e1
  refine Gol.icmpYes X1 hx hby d12_7 32 (by decide) (flt (by decide : ¬ ((2 : Int32) < (2 : Int32)))).2.1 ?_
  refine Gol.iloadN X1 hx hby d12_32 33 rfl rfl ?_
  refine Gol.fB X1 hx hby hZ hown (w 46 _ rfl) e1 B_A0 11 d12_33 d12_34 37 rfl rfl rfl rfl ?_
  intro T2 X2 e2
  refine Gol.fB X2 hx hby hZ hown (w 36 _ rfl) e2 B_A0 6 d12_37 d12_38 41 rfl rfl rfl rfl ?_
  intro T3 X3 e3
  refine Gol.iadd X3 hx hby d12_41 42 rfl (z := (4 : Int32)) rfl ?_
  refine Gol.icmpNo X3 hx hby d12_42 45 rfl (tlt (by decide : (2 : Int32) < (4 : Int32))).2.1 ?_
  refine Gol.fB X3 hx hby hZ hown (w 103 _ rfl) e3 B_A0 23 d12_45 d12_46 49 rfl rfl rfl rfl ?_
  intro T4 X4 e4
  refine Gol.iloadN X4 hx hby d12_49 50 rfl rfl ?_
  refine Gol.fB X4 hx hby hZ hown (w 46 _ rfl) e4 B_A0 11 d12_50 d12_51 54 rfl rfl rfl rfl ?_
  intro T5 X5 e5
  refine Gol.isub X5 hx hby d12_54 55 rfl (z := (0 : Int32)) rfl ?_
  refine Gol.lushr X5 hx hby d12_55 56 rfl (z := (3 : Int64)) (by decide +kernel) ?_
  refine Gol.lconst X5 hx hby d12_56 57 rfl (z := (1 : Int64)) rfl ?_
  refine Gol.land X5 hx hby d12_57 58 rfl (z := (1 : Int64)) (by decide +kernel) ?_
  refine Gol.lconst X5 hx hby d12_58 59 rfl (z := (0 : Int64)) rfl ?_
  refine Gol.lcmp X5 hx hby d12_59 60 rfl ?_
  refine Gol.ifNo X5 hx hby d12_60 63 rfl (feqL (by decide : ¬ ((1 : Int64) = (0 : Int64)))).1 ?_
  refine Gol.fB X5 hx hby hZ hown (w 38 _ rfl) e5 B_A0 7 d12_63 d12_64 67 rfl rfl rfl rfl ?_
  intro T6 X6 e6
  refine Gol.iloadN X6 hx hby d12_67 68 rfl rfl ?_
  refine Gol.fB X6 hx hby hZ hown (w 46 _ rfl) e6 B_A0 11 d12_68 d12_69 72 rfl rfl rfl rfl ?_
  intro T7 X7 e7
  refine Gol.isub X7 hx hby d12_72 73 rfl (z := (0 : Int32)) rfl ?_
  refine Gol.iaload X7 hx hby hZ e7 V_A1 d12_73 74 rfl ⟨by decide, by decide⟩ (v := s0) rfl ?_
  refine Gol.ineg X7 hx hby d12_74 75 rfl rfl ?_
  refine Gol.i2d X7 hx hby d12_75 76 rfl (v := (FP.l2d ((-s0)).toInt64)) (own_i2d _) ?_
  refine Gol.dstoreN X7 hx hby d12_76 77 rfl (l' := #[vr (A 0), vi 2, vd (FP.l2d ((-s0)).toInt64), ss]) rfl ?_
  refine Gol.dloadN X7 hx hby d12_77 78 rfl rfl ?_
  exact Gol.retD X7 hx hby Bd.returns Bd.notSynchronized d12_78 e7 ⟨rfl, N0, rfl⟩ (by decide) (by decide)
theorem ef_Pro3 (m : MethodId)  (A : Nat → Addr) : entryFrame m #[(.ref (A 0)), (.int 3)] 4 = mkF m 0 #[vr (A 0), vi 3, uu, uu] [] := by first | (simp [entryFrame, mkF, argsToLocals, Value.category]; done) | rfl
abbrev QPro3 (Z : State) (A : Nat → Addr) (pp cc nx wk ps op s0 s1 : Int32) (h0 : Heap) (n0 : Nat) (v : Option Value) (h : Heap) (L : List Loc) : Prop := v = some (.double (FP.l2d ((-s1)).toInt64)) ∧ Fr n0 L ∧ h = h0
set_option maxRecDepth 65536 in
set_option maxHeartbeats 40000000 in
theorem rmPro3 (l : Launch) (Z : State) (a0 : Array Value) (hw : TW a0 Z) (ws : List Jvm.Cond) (A : Nat → Addr) (pp cc nx wk ps op s0 s1 : Int32) (h0 : Heap) (n0 : Nat) (Zs : n0 ≤ h0.size) (B_A0 : FL Z h0 (A 0) (rxv A pp cc nx wk ps (3 : Int64) op)) (P1 : Vv Z h0 (A 1) .int (2 : Int32) [(.int s0), (.int s1)] (.int 0)) :
    Mt l (⟨"com/example/quorumstone/quorumstone/check/Relaxation", "profit", "(I)D"⟩ : MethodName) prog_8_method_11_code 4 (some .double) ws (rmm 0 0 0 0) #[(.ref (A 0)), (.int 3)] Z h0 (QPro3 Z A pp cc nx wk ps op s0 s1 h0 n0) 0 0 := by
  refine own_body n0 (plainFor_of_name pn_12) hw (fun m => ef_Pro3 m  A) ?_
  intro p ev s m below meth c s₁ Bd hZ hx hby hml hown X0 eh0 N0 w
  obtain ⟨k_A1, V_A1⟩ := P1
  show GolF _ _ _ _ _ _ _ s₁ m 0 #[vr (A 0), vi 3, uu, uu] []
  refine Gol.dconst0 X0 hx hby d12_0 1 rfl (v := (0 : UInt64)) (by decide +kernel) ?_
  refine Gol.dstoreN X0 hx hby d12_1 2 rfl (l' := #[vr (A 0), vi 3, vd 0, ss]) rfl ?_
  refine Gol.iloadN X0 hx hby d12_2 3 rfl rfl ?_
  refine Gol.fB X0 hx hby hZ hown (w 46 _ rfl) eh0 B_A0 11 d12_3 d12_4 7 rfl rfl rfl rfl ?_
  intro T1 X1 e1
  refine Gol.icmpYes X1 hx hby d12_7 32 (by decide) (flt (by decide : ¬ ((3 : Int32) < (2 : Int32)))).2.1 ?_
  refine Gol.iloadN X1 hx hby d12_32 33 rfl rfl ?_
  refine Gol.fB X1 hx hby hZ hown (w 46 _ rfl) e1 B_A0 11 d12_33 d12_34 37 rfl rfl rfl rfl ?_
  intro T2 X2 e2
  refine Gol.fB X2 hx hby hZ hown (w 36 _ rfl) e2 B_A0 6 d12_37 d12_38 41 rfl rfl rfl rfl ?_
  intro T3 X3 e3
  refine Gol.iadd X3 hx hby d12_41 42 rfl (z := (4 : Int32)) rfl ?_
  refine Gol.icmpNo X3 hx hby d12_42 45 rfl (tlt (by decide : (3 : Int32) < (4 : Int32))).2.1 ?_
  refine Gol.fB X3 hx hby hZ hown (w 103 _ rfl) e3 B_A0 23 d12_45 d12_46 49 rfl rfl rfl rfl ?_
  intro T4 X4 e4
  refine Gol.iloadN X4 hx hby d12_49 50 rfl rfl ?_
  refine Gol.fB X4 hx hby hZ hown (w 46 _ rfl) e4 B_A0 11 d12_50 d12_51 54 rfl rfl rfl rfl ?_
  intro T5 X5 e5
  refine Gol.isub X5 hx hby d12_54 55 rfl (z := (1 : Int32)) rfl ?_
  refine Gol.lushr X5 hx hby d12_55 56 rfl (z := (1 : Int64)) (by decide +kernel) ?_
  refine Gol.lconst X5 hx hby d12_56 57 rfl (z := (1 : Int64)) rfl ?_
  refine Gol.land X5 hx hby d12_57 58 rfl (z := (1 : Int64)) (by decide +kernel) ?_
  refine Gol.lconst X5 hx hby d12_58 59 rfl (z := (0 : Int64)) rfl ?_
  refine Gol.lcmp X5 hx hby d12_59 60 rfl ?_
  refine Gol.ifNo X5 hx hby d12_60 63 rfl (feqL (by decide : ¬ ((1 : Int64) = (0 : Int64)))).1 ?_
  refine Gol.fB X5 hx hby hZ hown (w 38 _ rfl) e5 B_A0 7 d12_63 d12_64 67 rfl rfl rfl rfl ?_
  intro T6 X6 e6
  refine Gol.iloadN X6 hx hby d12_67 68 rfl rfl ?_
  refine Gol.fB X6 hx hby hZ hown (w 46 _ rfl) e6 B_A0 11 d12_68 d12_69 72 rfl rfl rfl rfl ?_
  intro T7 X7 e7
  refine Gol.isub X7 hx hby d12_72 73 rfl (z := (1 : Int32)) rfl ?_
  refine Gol.iaload X7 hx hby hZ e7 V_A1 d12_73 74 rfl ⟨by decide, by decide⟩ (v := s1) rfl ?_
  refine Gol.ineg X7 hx hby d12_74 75 rfl rfl ?_
  refine Gol.i2d X7 hx hby d12_75 76 rfl (v := (FP.l2d ((-s1)).toInt64)) (own_i2d _) ?_
  refine Gol.dstoreN X7 hx hby d12_76 77 rfl (l' := #[vr (A 0), vi 3, vd (FP.l2d ((-s1)).toInt64), ss]) rfl ?_
  refine Gol.dloadN X7 hx hby d12_77 78 rfl rfl ?_
  exact Gol.retD X7 hx hby Bd.returns Bd.notSynchronized d12_78 e7 ⟨rfl, N0, rfl⟩ (by decide) (by decide)
theorem d12_10 : dc12 10 (.iconst 0) 1 := by decide +kernel
theorem d12_11 : dc12 11 (.aload_n 0) 1 := by decide +kernel
theorem d12_12 : dc12 12 (.getfield 45) 3 := by decide +kernel
theorem d12_15 : dc12 15 (.iload_n 1) 1 := by decide +kernel
theorem d12_16 : dc12 16 .iaload 1 := by decide +kernel
theorem d12_17 : dc12 17 (.aload_n 0) 1 := by decide +kernel
theorem d12_18 : dc12 18 (.getfield 48) 3 := by decide +kernel
theorem d12_21 : dc12 21 (.iload_n 1) 1 := by decide +kernel
theorem d12_22 : dc12 22 .iaload 1 := by decide +kernel
theorem d12_23 : dc12 23 .isub 1 := by decide +kernel
theorem d12_24 : dc12 24 (.invokestatic 162) 3 := by decide +kernel
theorem d12_27 : dc12 27 .i2d 1 := by decide +kernel
theorem d12_28 : dc12 28 (.dstore_n 2) 1 := by decide +kernel
theorem d12_29 : dc12 29 (.goto 48) 3 := by decide +kernel
theorem ef_ProD (m : MethodId) (p1 : Int32) (A : Nat → Addr) : entryFrame m #[(.ref (A 0)), (.int p1)] 4 = mkF m 0 #[vr (A 0), vi p1, uu, uu] [] := by first | (simp [entryFrame, mkF, argsToLocals, Value.category]; done) | rfl
abbrev QProD (Z : State) (p1 : Int32) (A : Nat → Addr) (pp cc nx wk ps : Int32) (un : Int64) (op nd0 nd1 tk0 tk1 : Int32) (h0 : Heap) (n0 : Nat) (v : Option Value) (h : Heap) (L : List Loc) : Prop := v = some (.double (FP.l2d (prf p1 nd0 nd1 tk0 tk1))) ∧ Fr n0 L ∧ h = h0
set_option maxRecDepth 65536 in
set_option maxHeartbeats 40000000 in
theorem rmProD (l : Launch) (Z : State) (a0 : Array Value) (hw : TW a0 Z) (ws : List Jvm.Cond) (p1 : Int32) (A : Nat → Addr) (pp cc nx wk ps : Int32) (un : Int64) (op nd0 nd1 tk0 tk1 : Int32) (h0 : Heap) (n0 : Nat) (Zs : n0 ≤ h0.size) (B_A0 : FL Z h0 (A 0) (rxv A pp cc nx wk ps un op)) (P2 : Vv Z h0 (A 2) .int (2 : Int32) [(.int nd0), (.int nd1)] (.int 0)) (P3 : Vv Z h0 (A 3) .int (2 : Int32) [(.int tk0), (.int tk1)] (.int 0)) (ha : B01 p1) :
    Mt l (⟨"com/example/quorumstone/quorumstone/check/Relaxation", "profit", "(I)D"⟩ : MethodName) prog_8_method_11_code 4 (some .double) ws (rmm 1 0 0 13) #[(.ref (A 0)), (.int p1)] Z h0 (QProD Z p1 A pp cc nx wk ps un op nd0 nd1 tk0 tk1 h0 n0) 0 0 := by
  refine own_body n0 (plainFor_of_name pn_12) hw (fun m => ef_ProD m p1 A) ?_
  intro p ev s m below meth c s₁ Bd hZ hx hby hml hown X0 eh0 N0 w
  obtain ⟨k_A2, V_A2⟩ := P2
  obtain ⟨k_A3, V_A3⟩ := P3
  show GolF _ _ _ _ _ _ _ s₁ m 0 #[vr (A 0), vi p1, uu, uu] []
  refine Gol.dconst0 X0 hx hby d12_0 1 rfl (v := (0 : UInt64)) (by decide +kernel) ?_
  refine Gol.dstoreN X0 hx hby d12_1 2 rfl (l' := #[vr (A 0), vi p1, vd 0, ss]) rfl ?_
  refine Gol.iloadN X0 hx hby d12_2 3 rfl rfl ?_
  refine Gol.fB X0 hx hby hZ hown (w 46 _ rfl) eh0 B_A0 11 d12_3 d12_4 7 rfl rfl rfl rfl ?_
  intro T1 X1 e1
  refine Gol.icmpNo X1 hx hby d12_7 10 rfl (tlt (own_lt2 ha)).2.1 ?_
  refine Gol.iconst X1 hx hby d12_10 11 rfl (z := (0 : Int32)) rfl ?_
  refine Gol.fB X1 hx hby hZ hown (w 40 _ rfl) e1 B_A0 8 d12_11 d12_12 15 rfl rfl rfl rfl ?_
  intro T2 X2 e2
  refine Gol.iloadN X2 hx hby d12_15 16 rfl rfl ?_
  refine Gol.iaload X2 hx hby hZ e2 V_A2 d12_16 17 rfl (own_in2 ha) (v := (sel p1 nd0 nd1)) (own_rI ha) ?_
  refine Gol.fB X2 hx hby hZ hown (w 42 _ rfl) e2 B_A0 9 d12_17 d12_18 21 rfl rfl rfl rfl ?_
  intro T3 X3 e3
  refine Gol.iloadN X3 hx hby d12_21 22 rfl rfl ?_
  refine Gol.iaload X3 hx hby hZ e3 V_A3 d12_22 23 rfl (own_in2 ha) (v := (sel p1 tk0 tk1)) (own_rI ha) ?_
  refine Gol.isub X3 hx hby d12_23 24 rfl rfl ?_
  refine Gol.callS X3 hx hby hZ hown 0 [(.int 0), (.int ((sel p1 nd0 nd1) - (sel p1 tk0 tk1)))] (w 146 _ rfl) (w 2 _ rfl) (w 3 _ rfl) (w 4 _ rfl) (by decide) (rm1 l Z a0 hw [] (0 : Int32) ((sel p1 nd0 nd1) - (sel p1 tk0 tk1))  h0 n0 Zs ) (by decide) (by decide) e3 (by rw [hml]; rfl) (rest := []) (Nat.le_of_eq rfl) (by decide) (by decide) (lenOf pd_0 rfl) rfl d12_24 27 rfl ?_
  intro T4 v4 L4 X4 hQ4
  obtain ⟨rfl, Nq4, eq4⟩ := hQ4
  have N4 := Fr.app N0 Nq4
  show GolF _ _ _ _ _ _ _ T4 m 27 #[vr (A 0), vi p1, vd 0, ss] [(.int (f1 (0 : Int32) ((sel p1 nd0 nd1) - (sel p1 tk0 tk1)) ))]
  refine Gol.i2d X4 hx hby d12_27 28 rfl (v := (FP.l2d ((f1 (0 : Int32) ((sel p1 nd0 nd1) - (sel p1 tk0 tk1)) )).toInt64)) (own_i2d _) ?_
  refine Gol.dstoreN X4 hx hby d12_28 29 rfl (l' := #[vr (A 0), vi p1, vd (FP.l2d ((f1 (0 : Int32) ((sel p1 nd0 nd1) - (sel p1 tk0 tk1)) )).toInt64), ss]) rfl ?_
  refine Gol.goto X4 hx hby d12_29 77 (by decide) ?_
  refine Gol.dloadN X4 hx hby d12_77 78 rfl rfl ?_
  exact Gol.retD X4 hx hby Bd.returns Bd.notSynchronized d12_78 eq4 ⟨rfl, N4, rfl⟩ (by decide) (by decide)
abbrev dc7 (i : Nat) (x : Instr) (n : Nat) : Prop := decode prog_8_method_21_code i = .ok (x, n)
theorem d7_0 : dc7 0 (.aload_n 0) 1 := by decide +kernel
theorem d7_1 : dc7 1 (.getfield 72) 3 := by decide +kernel
theorem d7_4 : dc7 4 (.iconst (-1)) 1 := by decide +kernel
theorem d7_5 : dc7 5 (.invokestatic 204) 3 := by decide +kernel
theorem d7_8 : dc7 8 (.aload_n 0) 1 := by decide +kernel
theorem d7_9 : dc7 9 (.getfield 81) 3 := by decide +kernel
theorem d7_12 : dc7 12 (.astore_n 1) 1 := by decide +kernel
theorem d7_13 : dc7 13 (.aload_n 1) 1 := by decide +kernel
theorem d7_14 : dc7 14 .arraylength 1 := by decide +kernel
theorem d7_15 : dc7 15 (.istore_n 2) 1 := by decide +kernel
theorem d7_16 : dc7 16 (.iconst 0) 1 := by decide +kernel
theorem d7_17 : dc7 17 (.istore_n 3) 1 := by decide +kernel
theorem d7_18 : dc7 18 (.iload_n 3) 1 := by decide +kernel
theorem d7_19 : dc7 19 (.iload_n 2) 1 := by decide +kernel
theorem d7_20 : dc7 20 (.if_icmp .ge 20) 3 := by decide +kernel
theorem d7_23 : dc7 23 (.aload_n 1) 1 := by decide +kernel
theorem d7_24 : dc7 24 (.iload_n 3) 1 := by decide +kernel
theorem d7_25 : dc7 25 .aaload 1 := by decide +kernel
theorem d7_26 : dc7 26 (.astore 4) 2 := by decide +kernel
theorem d7_28 : dc7 28 (.aload 4) 2 := by decide +kernel
theorem d7_30 : dc7 30 (.dconst 0) 1 := by decide +kernel
theorem d7_31 : dc7 31 (.invokestatic 192) 3 := by decide +kernel
theorem d7_34 : dc7 34 (.iinc 3 1) 3 := by decide +kernel
theorem d7_37 : dc7 37 (.goto (-19)) 3 := by decide +kernel
theorem d7_40 : dc7 40 (.iconst 0) 1 := by decide +kernel
theorem d7_41 : dc7 41 (.istore_n 1) 1 := by decide +kernel
theorem d7_42 : dc7 42 (.iload_n 1) 1 := by decide +kernel
theorem d7_43 : dc7 43 (.aload_n 0) 1 := by decide +kernel
theorem d7_44 : dc7 44 (.getfield 39) 3 := by decide +kernel
theorem d7_47 : dc7 47 (.if_icmp .ge 54) 3 := by decide +kernel
theorem d7_50 : dc7 50 (.aload_n 0) 1 := by decide +kernel
theorem d7_51 : dc7 51 (.getfield 75) 3 := by decide +kernel
theorem d7_54 : dc7 54 (.iload_n 1) 1 := by decide +kernel
theorem d7_55 : dc7 55 (.aload_n 0) 1 := by decide +kernel
theorem d7_56 : dc7 56 (.getfield 54) 3 := by decide +kernel
theorem d7_59 : dc7 59 (.aload_n 0) 1 := by decide +kernel
theorem d7_60 : dc7 60 (.getfield 39) 3 := by decide +kernel
theorem d7_63 : dc7 63 .iadd 1 := by decide +kernel
theorem d7_64 : dc7 64 (.iload_n 1) 1 := by decide +kernel
theorem d7_65 : dc7 65 .iadd 1 := by decide +kernel
theorem d7_66 : dc7 66 .iastore 1 := by decide +kernel
theorem d7_67 : dc7 67 (.aload_n 0) 1 := by decide +kernel
theorem d7_68 : dc7 68 (.getfield 72) 3 := by decide +kernel
theorem d7_71 : dc7 71 (.aload_n 0) 1 := by decide +kernel
theorem d7_72 : dc7 72 (.getfield 75) 3 := by decide +kernel
theorem d7_75 : dc7 75 (.iload_n 1) 1 := by decide +kernel
theorem d7_76 : dc7 76 .iaload 1 := by decide +kernel
theorem d7_77 : dc7 77 (.iload_n 1) 1 := by decide +kernel
theorem d7_78 : dc7 78 .iastore 1 := by decide +kernel
theorem d7_79 : dc7 79 (.aload_n 0) 1 := by decide +kernel
theorem d7_80 : dc7 80 (.getfield 78) 3 := by decide +kernel
theorem d7_83 : dc7 83 (.iload_n 1) 1 := by decide +kernel
theorem d7_84 : dc7 84 (.dconst 1) 1 := by decide +kernel
theorem d7_85 : dc7 85 .dastore 1 := by decide +kernel
theorem d7_86 : dc7 86 (.aload_n 0) 1 := by decide +kernel
theorem d7_87 : dc7 87 (.getfield 81) 3 := by decide +kernel
theorem d7_90 : dc7 90 (.iload_n 1) 1 := by decide +kernel
theorem d7_91 : dc7 91 .aaload 1 := by decide +kernel
theorem d7_92 : dc7 92 (.iload_n 1) 1 := by decide +kernel
theorem d7_93 : dc7 93 (.dconst 1) 1 := by decide +kernel
theorem d7_94 : dc7 94 .dastore 1 := by decide +kernel
theorem d7_95 : dc7 95 (.iinc 1 1) 3 := by decide +kernel
theorem d7_98 : dc7 98 (.goto (-56)) 3 := by decide +kernel
theorem d7_101 : dc7 101 (.aload_n 0) 1 := by decide +kernel
theorem d7_102 : dc7 102 (.iconst 0) 1 := by decide +kernel
theorem d7_103 : dc7 103 (.putfield 153) 3 := by decide +kernel
theorem d7_106 : dc7 106 .return_ 1 := by decide +kernel
theorem pn_7 : plainName "com/example/quorumstone/quorumstone/check/Relaxation" = true := by first | (simp [plainName, overriddenIn]; done) | decide +kernel
theorem ef_Slk (m : MethodId)  (A : Nat → Addr) : entryFrame m #[(.ref (A 0))] 5 = mkF m 0 #[vr (A 0), uu, uu, uu, uu] [] := by first | (simp [entryFrame, mkF, argsToLocals, Value.category]; done) | rfl
abbrev QSlk (Z : State) (A : Nat → Addr) (pp cc nx wk ps : Int32) (un : Int64) (op : Int32) (x0 x1 x2 x3 x4 x5 y0 y1 z0 z1 v0 v1 w0 w1 : Value) (h0 : Heap) (n0 : Nat) (v : Option Value) (h : Heap) (L : List Loc) : Prop := v = none ∧ Fr n0 L ∧ Keep h0 h [(A 0), (A 7), (A 8), (A 9), (A 11), (A 12)] ∧ FL Z h (A 0) (rxv A pp cc nx wk (0 : Int32) un op) ∧ Vv Z h (A 7) .int (6 : Int32) [(.int (-1)), (.int (-1)), (.int (-1)), (.int (-1)), (.int 0), (.int 1)] (.int 0) ∧ Vv Z h (A 8) .int (2 : Int32) [(.int 4), (.int 5)] (.int 0) ∧ Vv Z h (A 9) .double (2 : Int32) [(.double 4607182418800017408), (.double 4607182418800017408)] (.double 0) ∧ Vv Z h (A 11) .double (2 : Int32) [(.double 4607182418800017408), (.double 0)] (.double 0) ∧ Vv Z h (A 12) .double (2 : Int32) [(.double 0), (.double 4607182418800017408)] (.double 0)
set_option maxRecDepth 65536 in
set_option maxHeartbeats 40000000 in
theorem rmSlk (l : Launch) (Z : State) (a0 : Array Value) (hw : TW a0 Z) (ws : List Jvm.Cond) (A : Nat → Addr) (pp cc nx wk ps : Int32) (un : Int64) (op : Int32) (x0 x1 x2 x3 x4 x5 y0 y1 z0 z1 v0 v1 w0 w1 : Value) (h0 : Heap) (n0 : Nat) (Zs : n0 ≤ h0.size) (D : DisA A) (G : FreA A n0) (B_A0 : FL Z h0 (A 0) (rxv A pp cc nx wk ps un op)) (E_A0 : Exa Z h0 (A 0) "com/example/quorumstone/quorumstone/check/Relaxation") (P7 : Vv Z h0 (A 7) .int (6 : Int32) [x0, x1, x2, x3, x4, x5] (.int 0)) (P8 : Vv Z h0 (A 8) .int (2 : Int32) [y0, y1] (.int 0)) (P9 : Vv Z h0 (A 9) .double (2 : Int32) [z0, z1] (.double 0)) (P10 : Vv Z h0 (A 10) (.array .double) (2 : Int32) [(.ref (A 11)), (.ref (A 12))] .null) (P11 : Vv Z h0 (A 11) .double (2 : Int32) [v0, v1] (.double 0)) (P12 : Vv Z h0 (A 12) .double (2 : Int32) [w0, w1] (.double 0)) :
    Mt l (⟨"com/example/quorumstone/quorumstone/check/Relaxation", "startFromSlacks", "()V"⟩ : MethodName) prog_8_method_21_code 5 none ws (rmm 1 0 0 16) #[(.ref (A 0))] Z h0 (QSlk Z A pp cc nx wk ps un op x0 x1 x2 x3 x4 x5 y0 y1 z0 z1 v0 v1 w0 w1 h0 n0) 0 0 := by
  refine own_body n0 (plainFor_of_name pn_7) hw (fun m => ef_Slk m  A) ?_
  intro p ev s m below meth c s₁ Bd hZ hx hby hml hown X0 eh0 N0 w
  obtain ⟨k_A7, V_A7⟩ := P7
  obtain ⟨k_A8, V_A8⟩ := P8
  obtain ⟨k_A9, V_A9⟩ := P9
  obtain ⟨k_A10, V_A10⟩ := P10
  obtain ⟨k_A11, V_A11⟩ := P11
  obtain ⟨k_A12, V_A12⟩ := P12
  have nn_A10 : (A 10) ∉ [(A 0), (A 7), (A 8), (A 9), (A 11), (A 12)] := (nnA D 10 [0, 7, 8, 9, 11, 12] rfl)
  have LA := own_LA hw
  have K := Keep.refl h0 [(A 0), (A 7), (A 8), (A 9), (A 11), (A 12)]
  show GolF _ _ _ _ _ _ _ s₁ m 0 #[vr (A 0), uu, uu, uu, uu] []
  refine Gol.fB X0 hx hby hZ hown (w 67 _ rfl) eh0 B_A0 14 d7_0 d7_1 4 rfl rfl rfl rfl ?_
  intro T1 X1 e1
  refine Gol.iconst X1 hx hby d7_4 5 rfl (z := (-1 : Int32)) rfl ?_
  refine Gol.callS X1 hx hby hZ hown 0 [(.ref (A 7)), (.int (-1))] (w 87 _ rfl) (w 88 _ rfl) (w 89 _ rfl) (w 90 _ rfl) (by decide) (rmFillI l Z a0 hw [] (A 7) (-1 : Int32) x0 x1 x2 x3 x4 x5 h0 n0 Zs ⟨_, V_A7⟩ (G 7 rfl)) (by decide) (by decide) e1 (by rw [hml]; rfl) (rest := []) (Nat.le_of_eq rfl) (by decide) (by decide) (lenOf pd_1 rfl) rfl d7_5 8 rfl ?_
  intro T2 v2 L2 X2 hQ2
  obtain ⟨rfl, Nq2, Kq2, kf2, V_A7⟩ := hQ2
  have N2 := Fr.app N0 Nq2
  have E_A0 := E_A0.keep Kq2
  have B_A0 := B_A0.keep Kq2 (nnA D 0 [7] rfl)
  have V_A8 := V_A8.keep Kq2 (nnA D 8 [7] rfl)
  have V_A9 := V_A9.keep Kq2 (nnA D 9 [7] rfl)
  have V_A11 := V_A11.keep Kq2 (nnA D 11 [7] rfl)
  have V_A12 := V_A12.keep Kq2 (nnA D 12 [7] rfl)
  have K := K.trans Kq2 (allS (Or.inl (List.mem_of_getElem? (i := 1) rfl)) all0)
  have Zs := Nat.le_trans Zs Kq2.1
  show GolF _ _ _ _ _ _ _ T2 m 8 #[vr (A 0), uu, uu, uu, uu] []
  refine Gol.fB X2 hx hby hZ hown (w 73 _ rfl) rfl B_A0 17 d7_8 d7_9 12 rfl rfl rfl rfl ?_
  intro T3 X3 e3
  refine Gol.astoreN X3 hx hby d7_12 13 rfl rfl (l' := #[vr (A 0), vr (A 10), uu, uu, uu]) rfl ?_
  refine Gol.aloadN X3 hx hby d7_13 14 rfl rfl rfl ?_
  refine Gol.alen X3 hx hby hZ e3 (V_A10.keep K nn_A10) d7_14 15 rfl ?_
  refine Gol.istoreN X3 hx hby d7_15 16 rfl (l' := #[vr (A 0), vr (A 10), vi 2, uu, uu]) rfl ?_
  refine Gol.iconst X3 hx hby d7_16 17 rfl (z := (0 : Int32)) rfl ?_
  refine Gol.istoreN X3 hx hby d7_17 18 rfl (l' := #[vr (A 0), vr (A 10), vi 2, vi 0, uu]) rfl ?_
  refine Gol.iloadN X3 hx hby d7_18 19 rfl rfl ?_
  refine Gol.iloadN X3 hx hby d7_19 20 rfl rfl ?_
  refine Gol.icmpNo X3 hx hby d7_20 23 rfl (tlt (by decide : (0 : Int32) < (2 : Int32))).2.1 ?_
  refine Gol.aloadN X3 hx hby d7_23 24 rfl rfl rfl ?_
  refine Gol.iloadN X3 hx hby d7_24 25 rfl rfl ?_
  refine Gol.aaload X3 hx hby hZ e3 (V_A10.keep K nn_A10) d7_25 26 rfl rfl ⟨by decide, by decide⟩ (v := (.ref (A 11))) rfl ?_
  refine Gol.astore X3 hx hby d7_26 28 rfl rfl (l' := #[vr (A 0), vr (A 10), vi 2, vi 0, vr (A 11)]) rfl ?_
  refine Gol.aload X3 hx hby d7_28 30 rfl rfl rfl ?_
  refine Gol.dconst0 X3 hx hby d7_30 31 rfl (v := (0 : UInt64)) (by decide +kernel) ?_
  refine Gol.callS X3 hx hby hZ hown 0 [(.ref (A 11)), (.double 0)] (w 91 _ rfl) (w 92 _ rfl) (w 89 _ rfl) (w 93 _ rfl) (by decide) (rmFillD l Z a0 hw [] (A 11) (0 : UInt64) v0 v1 T2.heap n0 Zs ⟨_, V_A11⟩ (G 11 rfl)) (by decide) (by decide) e3 (by rw [hml]; rfl) (rest := []) (Nat.le_of_eq rfl) (by decide) (by decide) (lenOf pd_2 rfl) rfl d7_31 34 rfl ?_
  intro T4 v4 L4 X4 hQ4
  obtain ⟨rfl, Nq4, Kq4, kf4, V_A11⟩ := hQ4
  have N4 := Fr.app N2 Nq4
  have E_A0 := E_A0.keep Kq4
  have B_A0 := B_A0.keep Kq4 (nnA D 0 [11] rfl)
  have V_A8 := V_A8.keep Kq4 (nnA D 8 [11] rfl)
  have V_A9 := V_A9.keep Kq4 (nnA D 9 [11] rfl)
  have V_A12 := V_A12.keep Kq4 (nnA D 12 [11] rfl)
  have V_A7 := V_A7.keep Kq4 (nnA D 7 [11] rfl)
  have K := K.trans Kq4 (allS (Or.inl (List.mem_of_getElem? (i := 4) rfl)) all0)
  have Zs := Nat.le_trans Zs Kq4.1
  show GolF _ _ _ _ _ _ _ T4 m 34 #[vr (A 0), vr (A 10), vi 2, vi 0, vr (A 11)] []
  refine Gol.iinc X4 hx hby d7_34 37 rfl rfl (l' := #[vr (A 0), vr (A 10), vi 2, vi 1, vr (A 11)]) rfl ?_
  refine Gol.goto X4 hx hby d7_37 18 (by decide) ?_
  refine Gol.iloadN X4 hx hby d7_18 19 rfl rfl ?_
  refine Gol.iloadN X4 hx hby d7_19 20 rfl rfl ?_
  refine Gol.icmpNo X4 hx hby d7_20 23 rfl (tlt (by decide : (1 : Int32) < (2 : Int32))).2.1 ?_
  refine Gol.aloadN X4 hx hby d7_23 24 rfl rfl rfl ?_
  refine Gol.iloadN X4 hx hby d7_24 25 rfl rfl ?_
  refine Gol.aaload X4 hx hby hZ rfl (V_A10.keep K nn_A10) d7_25 26 rfl rfl ⟨by decide, by decide⟩ (v := (.ref (A 12))) rfl ?_
  refine Gol.astore X4 hx hby d7_26 28 rfl rfl (l' := #[vr (A 0), vr (A 10), vi 2, vi 1, vr (A 12)]) rfl ?_
  refine Gol.aload X4 hx hby d7_28 30 rfl rfl rfl ?_
  refine Gol.dconst0 X4 hx hby d7_30 31 rfl (v := (0 : UInt64)) (by decide +kernel) ?_
  refine Gol.callS X4 hx hby hZ hown 0 [(.ref (A 12)), (.double 0)] (w 91 _ rfl) (w 92 _ rfl) (w 89 _ rfl) (w 93 _ rfl) (by decide) (rmFillD l Z a0 hw [] (A 12) (0 : UInt64) w0 w1 T4.heap n0 Zs ⟨_, V_A12⟩ (G 12 rfl)) (by decide) (by decide) rfl (by rw [hml]; rfl) (rest := []) (Nat.le_of_eq rfl) (by decide) (by decide) (lenOf pd_2 rfl) rfl d7_31 34 rfl ?_
  intro T5 v5 L5 X5 hQ5
  obtain ⟨rfl, Nq5, Kq5, kf5, V_A12⟩ := hQ5
  have N5 := Fr.app N4 Nq5
  have E_A0 := E_A0.keep Kq5
  have B_A0 := B_A0.keep Kq5 (nnA D 0 [12] rfl)
  have V_A8 := V_A8.keep Kq5 (nnA D 8 [12] rfl)
  have V_A9 := V_A9.keep Kq5 (nnA D 9 [12] rfl)
  have V_A7 := V_A7.keep Kq5 (nnA D 7 [12] rfl)
  have V_A11 := V_A11.keep Kq5 (nnA D 11 [12] rfl)
  have K := K.trans Kq5 (allS (Or.inl (List.mem_of_getElem? (i := 5) rfl)) all0)
  show GolF _ _ _ _ _ _ _ T5 m 34 #[vr (A 0), vr (A 10), vi 2, vi 1, vr (A 12)] []
  refine Gol.iinc X5 hx hby d7_34 37 rfl rfl (l' := #[vr (A 0), vr (A 10), vi 2, vi 2, vr (A 12)]) rfl ?_
  refine Gol.goto X5 hx hby d7_37 18 (by decide) ?_
  refine Gol.iloadN X5 hx hby d7_18 19 rfl rfl ?_
  refine Gol.iloadN X5 hx hby d7_19 20 rfl rfl ?_
  refine Gol.icmpYes X5 hx hby d7_20 40 (by decide) (flt (by decide : ¬ ((2 : Int32) < (2 : Int32)))).2.1 ?_
  refine Gol.iconst X5 hx hby d7_40 41 rfl (z := (0 : Int32)) rfl ?_
  refine Gol.istoreN X5 hx hby d7_41 42 rfl (l' := #[vr (A 0), vi 0, vi 2, vi 2, vr (A 12)]) rfl ?_
  refine Gol.iloadN X5 hx hby d7_42 43 rfl rfl ?_
  refine Gol.fB X5 hx hby hZ hown (w 36 _ rfl) rfl B_A0 6 d7_43 d7_44 47 rfl rfl rfl rfl ?_
  intro T6 X6 e6
  refine Gol.icmpNo X6 hx hby d7_47 50 rfl (tlt (by decide : (0 : Int32) < (2 : Int32))).2.1 ?_
  refine Gol.fB X6 hx hby hZ hown (w 69 _ rfl) e6 B_A0 15 d7_50 d7_51 54 rfl rfl rfl rfl ?_
  intro T7 X7 e7
  refine Gol.iloadN X7 hx hby d7_54 55 rfl rfl ?_
  refine Gol.fB X7 hx hby hZ hown (w 46 _ rfl) e7 B_A0 11 d7_55 d7_56 59 rfl rfl rfl rfl ?_
  intro T8 X8 e8
  refine Gol.fB X8 hx hby hZ hown (w 36 _ rfl) e8 B_A0 6 d7_59 d7_60 63 rfl rfl rfl rfl ?_
  intro T9 X9 e9
  refine Gol.iadd X9 hx hby d7_63 64 rfl (z := (4 : Int32)) rfl ?_
  refine Gol.iloadN X9 hx hby d7_64 65 rfl rfl ?_
  refine Gol.iadd X9 hx hby d7_65 66 rfl (z := (4 : Int32)) rfl ?_
  refine Gol.iastore X9 hx hby hZ e9 V_A8 d7_66 67 rfl ⟨by decide, by decide⟩ 0 rfl (Nat.le_of_ble_eq_true rfl) ?_
  intro T10 h10 X10 e10 W10 A10
  have V_A8 : Arv Z h10 (A 8) k_A8 .int (2 : Int32) [(.int 4), y1] (.int 0) := A10
  have E_A0 := E_A0.wr W10
  have B_A0 := B_A0.other W10 (D 0 8 rfl)
  have V_A9 := V_A9.other W10 (D 9 8 rfl)
  have V_A7 := V_A7.other W10 (D 7 8 rfl)
  have V_A11 := V_A11.other W10 (D 11 8 rfl)
  have V_A12 := V_A12.other W10 (D 12 8 rfl)
  have K := K.wr W10 (Or.inl (List.mem_of_getElem? (i := 2) rfl))
  have N10 := Fr.snoc X10 N5 (G 8 rfl)
  refine Gol.fB X10 hx hby hZ hown (w 67 _ rfl) e10 B_A0 14 d7_67 d7_68 71 rfl rfl rfl rfl ?_
  intro T11 X11 e11
  refine Gol.fB X11 hx hby hZ hown (w 69 _ rfl) e11 B_A0 15 d7_71 d7_72 75 rfl rfl rfl rfl ?_
  intro T12 X12 e12
  refine Gol.iloadN X12 hx hby d7_75 76 rfl rfl ?_
  refine Gol.iaload X12 hx hby hZ e12 V_A8 d7_76 77 rfl ⟨by decide, by decide⟩ (v := (4 : Int32)) rfl ?_
  refine Gol.iloadN X12 hx hby d7_77 78 rfl rfl ?_
  refine Gol.iastore X12 hx hby hZ e12 V_A7 d7_78 79 rfl ⟨by decide, by decide⟩ 4 rfl (Nat.le_of_ble_eq_true rfl) ?_
  intro T13 h13 X13 e13 W13 A13
  have V_A7 : Arv Z h13 (A 7) kf2 .int (6 : Int32) [(.int (-1)), (.int (-1)), (.int (-1)), (.int (-1)), (.int 0), (.int (-1))] (.int 0) := A13
  have E_A0 := E_A0.wr W13
  have B_A0 := B_A0.other W13 (D 0 7 rfl)
  have V_A9 := V_A9.other W13 (D 9 7 rfl)
  have V_A11 := V_A11.other W13 (D 11 7 rfl)
  have V_A12 := V_A12.other W13 (D 12 7 rfl)
  have V_A8 := V_A8.other W13 (D 8 7 rfl)
  have K := K.wr W13 (Or.inl (List.mem_of_getElem? (i := 1) rfl))
  have N13 := Fr.snoc X13 N10 (G 7 rfl)
  refine Gol.fB X13 hx hby hZ hown (w 71 _ rfl) e13 B_A0 16 d7_79 d7_80 83 rfl rfl rfl rfl ?_
  intro T14 X14 e14
  refine Gol.iloadN X14 hx hby d7_83 84 rfl rfl ?_
  refine Gol.dconst1 X14 hx hby d7_84 85 rfl (v := (4607182418800017408 : UInt64)) (by decide +kernel) ?_
  refine Gol.dastore X14 hx hby hZ e14 V_A9 d7_85 86 rfl ⟨by decide, by decide⟩ 0 rfl (Nat.le_of_ble_eq_true rfl) ?_
  intro T15 h15 X15 e15 W15 A15
  have V_A9 : Arv Z h15 (A 9) k_A9 .double (2 : Int32) [(.double 4607182418800017408), z1] (.double 0) := A15
  have E_A0 := E_A0.wr W15
  have B_A0 := B_A0.other W15 (D 0 9 rfl)
  have V_A11 := V_A11.other W15 (D 11 9 rfl)
  have V_A12 := V_A12.other W15 (D 12 9 rfl)
  have V_A8 := V_A8.other W15 (D 8 9 rfl)
  have V_A7 := V_A7.other W15 (D 7 9 rfl)
  have K := K.wr W15 (Or.inl (List.mem_of_getElem? (i := 3) rfl))
  have N15 := Fr.snoc X15 N13 (G 9 rfl)
  refine Gol.fB X15 hx hby hZ hown (w 73 _ rfl) e15 B_A0 17 d7_86 d7_87 90 rfl rfl rfl rfl ?_
  intro T16 X16 e16
  refine Gol.iloadN X16 hx hby d7_90 91 rfl rfl ?_
  refine Gol.aaload X16 hx hby hZ e16 (V_A10.keep K nn_A10) d7_91 92 rfl rfl ⟨by decide, by decide⟩ (v := (.ref (A 11))) rfl ?_
  refine Gol.iloadN X16 hx hby d7_92 93 rfl rfl ?_
  refine Gol.dconst1 X16 hx hby d7_93 94 rfl (v := (4607182418800017408 : UInt64)) (by decide +kernel) ?_
  refine Gol.dastore X16 hx hby hZ e16 V_A11 d7_94 95 rfl ⟨by decide, by decide⟩ 0 rfl (Nat.le_of_ble_eq_true rfl) ?_
  intro T17 h17 X17 e17 W17 A17
  have V_A11 : Arv Z h17 (A 11) kf4 .double (2 : Int32) [(.double 4607182418800017408), (.double 0)] (.double 0) := A17
  have E_A0 := E_A0.wr W17
  have B_A0 := B_A0.other W17 (D 0 11 rfl)
  have V_A12 := V_A12.other W17 (D 12 11 rfl)
  have V_A8 := V_A8.other W17 (D 8 11 rfl)
  have V_A7 := V_A7.other W17 (D 7 11 rfl)
  have V_A9 := V_A9.other W17 (D 9 11 rfl)
  have K := K.wr W17 (Or.inl (List.mem_of_getElem? (i := 4) rfl))
  have N17 := Fr.snoc X17 N15 (G 11 rfl)
  refine Gol.iinc X17 hx hby d7_95 98 rfl rfl (l' := #[vr (A 0), vi 1, vi 2, vi 2, vr (A 12)]) rfl ?_
  refine Gol.goto X17 hx hby d7_98 42 (by decide) ?_
  refine Gol.iloadN X17 hx hby d7_42 43 rfl rfl ?_
  refine Gol.fB X17 hx hby hZ hown (w 36 _ rfl) e17 B_A0 6 d7_43 d7_44 47 rfl rfl rfl rfl ?_
  intro T18 X18 e18
  refine Gol.icmpNo X18 hx hby d7_47 50 rfl (tlt (by decide : (1 : Int32) < (2 : Int32))).2.1 ?_
  refine Gol.fB X18 hx hby hZ hown (w 69 _ rfl) e18 B_A0 15 d7_50 d7_51 54 rfl rfl rfl rfl ?_
  intro T19 X19 e19
  refine Gol.iloadN X19 hx hby d7_54 55 rfl rfl ?_
  refine Gol.fB X19 hx hby hZ hown (w 46 _ rfl) e19 B_A0 11 d7_55 d7_56 59 rfl rfl rfl rfl ?_
  intro T20 X20 e20
  refine Gol.fB X20 hx hby hZ hown (w 36 _ rfl) e20 B_A0 6 d7_59 d7_60 63 rfl rfl rfl rfl ?_
  intro T21 X21 e21
  refine Gol.iadd X21 hx hby d7_63 64 rfl (z := (4 : Int32)) rfl ?_
  refine Gol.iloadN X21 hx hby d7_64 65 rfl rfl ?_
  refine Gol.iadd X21 hx hby d7_65 66 rfl (z := (5 : Int32)) rfl ?_
  refine Gol.iastore X21 hx hby hZ e21 V_A8 d7_66 67 rfl ⟨by decide, by decide⟩ 1 rfl (Nat.le_of_ble_eq_true rfl) ?_
  intro T22 h22 X22 e22 W22 A22
  have V_A8 : Arv Z h22 (A 8) k_A8 .int (2 : Int32) [(.int 4), (.int 5)] (.int 0) := A22
  have E_A0 := E_A0.wr W22
  have B_A0 := B_A0.other W22 (D 0 8 rfl)
  have V_A12 := V_A12.other W22 (D 12 8 rfl)
  have V_A7 := V_A7.other W22 (D 7 8 rfl)
  have V_A9 := V_A9.other W22 (D 9 8 rfl)
  have V_A11 := V_A11.other W22 (D 11 8 rfl)
  have K := K.wr W22 (Or.inl (List.mem_of_getElem? (i := 2) rfl))
  have N22 := Fr.snoc X22 N17 (G 8 rfl)
  refine Gol.fB X22 hx hby hZ hown (w 67 _ rfl) e22 B_A0 14 d7_67 d7_68 71 rfl rfl rfl rfl ?_
  intro T23 X23 e23
  refine Gol.fB X23 hx hby hZ hown (w 69 _ rfl) e23 B_A0 15 d7_71 d7_72 75 rfl rfl rfl rfl ?_
  intro T24 X24 e24
  refine Gol.iloadN X24 hx hby d7_75 76 rfl rfl ?_
  refine Gol.iaload X24 hx hby hZ e24 V_A8 d7_76 77 rfl ⟨by decide, by decide⟩ (v := (5 : Int32)) rfl ?_
  refine Gol.iloadN X24 hx hby d7_77 78 rfl rfl ?_
  refine Gol.iastore X24 hx hby hZ e24 V_A7 d7_78 79 rfl ⟨by decide, by decide⟩ 5 rfl (Nat.le_of_ble_eq_true rfl) ?_
  intro T25 h25 X25 e25 W25 A25
  have V_A7 : Arv Z h25 (A 7) kf2 .int (6 : Int32) [(.int (-1)), (.int (-1)), (.int (-1)), (.int (-1)), (.int 0), (.int 1)] (.int 0) := A25
  have E_A0 := E_A0.wr W25
  have B_A0 := B_A0.other W25 (D 0 7 rfl)
  have V_A12 := V_A12.other W25 (D 12 7 rfl)
  have V_A9 := V_A9.other W25 (D 9 7 rfl)
  have V_A11 := V_A11.other W25 (D 11 7 rfl)
  have V_A8 := V_A8.other W25 (D 8 7 rfl)
  have K := K.wr W25 (Or.inl (List.mem_of_getElem? (i := 1) rfl))
  have N25 := Fr.snoc X25 N22 (G 7 rfl)
  refine Gol.fB X25 hx hby hZ hown (w 71 _ rfl) e25 B_A0 16 d7_79 d7_80 83 rfl rfl rfl rfl ?_
  intro T26 X26 e26
  refine Gol.iloadN X26 hx hby d7_83 84 rfl rfl ?_
  refine Gol.dconst1 X26 hx hby d7_84 85 rfl (v := (4607182418800017408 : UInt64)) (by decide +kernel) ?_
  refine Gol.dastore X26 hx hby hZ e26 V_A9 d7_85 86 rfl ⟨by decide, by decide⟩ 1 rfl (Nat.le_of_ble_eq_true rfl) ?_
  intro T27 h27 X27 e27 W27 A27
  have V_A9 : Arv Z h27 (A 9) k_A9 .double (2 : Int32) [(.double 4607182418800017408), (.double 4607182418800017408)] (.double 0) := A27
  have E_A0 := E_A0.wr W27
  have B_A0 := B_A0.other W27 (D 0 9 rfl)
  have V_A12 := V_A12.other W27 (D 12 9 rfl)
  have V_A11 := V_A11.other W27 (D 11 9 rfl)
  have V_A8 := V_A8.other W27 (D 8 9 rfl)
  have V_A7 := V_A7.other W27 (D 7 9 rfl)
  have K := K.wr W27 (Or.inl (List.mem_of_getElem? (i := 3) rfl))
  have N27 := Fr.snoc X27 N25 (G 9 rfl)
  refine Gol.fB X27 hx hby hZ hown (w 73 _ rfl) e27 B_A0 17 d7_86 d7_87 90 rfl rfl rfl rfl ?_
  intro T28 X28 e28
  refine Gol.iloadN X28 hx hby d7_90 91 rfl rfl ?_
  refine Gol.aaload X28 hx hby hZ e28 (V_A10.keep K nn_A10) d7_91 92 rfl rfl ⟨by decide, by decide⟩ (v := (.ref (A 12))) rfl ?_
  refine Gol.iloadN X28 hx hby d7_92 93 rfl rfl ?_
  refine Gol.dconst1 X28 hx hby d7_93 94 rfl (v := (4607182418800017408 : UInt64)) (by decide +kernel) ?_
  refine Gol.dastore X28 hx hby hZ e28 V_A12 d7_94 95 rfl ⟨by decide, by decide⟩ 1 rfl (Nat.le_of_ble_eq_true rfl) ?_
  intro T29 h29 X29 e29 W29 A29
  have V_A12 : Arv Z h29 (A 12) kf5 .double (2 : Int32) [(.double 0), (.double 4607182418800017408)] (.double 0) := A29
  have E_A0 := E_A0.wr W29
  have B_A0 := B_A0.other W29 (D 0 12 rfl)
  have V_A11 := V_A11.other W29 (D 11 12 rfl)
  have V_A8 := V_A8.other W29 (D 8 12 rfl)
  have V_A7 := V_A7.other W29 (D 7 12 rfl)
  have V_A9 := V_A9.other W29 (D 9 12 rfl)
  have K := K.wr W29 (Or.inl (List.mem_of_getElem? (i := 5) rfl))
  have N29 := Fr.snoc X29 N27 (G 12 rfl)
  refine Gol.iinc X29 hx hby d7_95 98 rfl rfl (l' := #[vr (A 0), vi 2, vi 2, vi 2, vr (A 12)]) rfl ?_
  refine Gol.goto X29 hx hby d7_98 42 (by decide) ?_
  refine Gol.iloadN X29 hx hby d7_42 43 rfl rfl ?_
  refine Gol.fB X29 hx hby hZ hown (w 36 _ rfl) e29 B_A0 6 d7_43 d7_44 47 rfl rfl rfl rfl ?_
  intro T30 X30 e30
  refine Gol.icmpYes X30 hx hby d7_47 101 (by decide) (flt (by decide : ¬ ((2 : Int32) < (2 : Int32)))).2.1 ?_
  refine Gol.aloadN X30 hx hby d7_101 102 rfl rfl rfl ?_
  refine Gol.iconst X30 hx hby d7_102 103 rfl (z := (0 : Int32)) rfl ?_
  refine Gol.putF X30 hx hby hZ hown (host := "") (Or.inl (w 94 _ rfl)) Via.refl e30 (B_A0 22 _ _ _ rfl rfl) E_A0 (Or.inl (w 95 _ rfl)) (w 9 _ rfl) (ty := .int) (by decide) rfl rfl d7_103 106 rfl ?_
  intro T31 h31 X31 e31 W31
  have V_A11 := V_A11.other W31 (D 11 0 rfl)
  have V_A8 := V_A8.other W31 (D 8 0 rfl)
  have V_A7 := V_A7.other W31 (D 7 0 rfl)
  have V_A9 := V_A9.other W31 (D 9 0 rfl)
  have V_A12 := V_A12.other W31 (D 12 0 rfl)
  have K := K.wr W31 (Or.inl (List.mem_of_getElem? (i := 0) rfl))
  have B_A0 : FL Z h31 (A 0) (rxv A pp cc nx wk (0 : Int32) un op) := B_A0.put LA (i0 := 22) rfl W31
  have N31 := Fr.snoc X31 N29 (G 0 rfl)
  exact Gol.ret0 X31 hx hby Bd.returns Bd.notSynchronized d7_106 e31 ⟨rfl, N31, K, B_A0, ⟨_, V_A7⟩, ⟨_, V_A8⟩, ⟨_, V_A9⟩, ⟨_, V_A11⟩, ⟨_, V_A12⟩⟩ (by decide) (by decide)
abbrev dc13 (i : Nat) (x : Instr) (n : Nat) : Prop := decode prog_8_method_13_code i = .ok (x, n)
theorem d13_0 : dc13 0 (.iconst 0) 1 := by decide +kernel
theorem d13_1 : dc13 1 (.istore_n 1) 1 := by decide +kernel
theorem d13_2 : dc13 2 (.iload_n 1) 1 := by decide +kernel
theorem d13_3 : dc13 3 (.aload_n 0) 1 := by decide +kernel
theorem d13_4 : dc13 4 (.getfield 39) 3 := by decide +kernel
theorem d13_7 : dc13 7 (.if_icmp .ge 60) 3 := by decide +kernel
theorem d13_10 : dc13 10 (.dconst 0) 1 := by decide +kernel
theorem d13_11 : dc13 11 (.dstore_n 2) 1 := by decide +kernel
theorem d13_12 : dc13 12 (.aload_n 0) 1 := by decide +kernel
theorem d13_13 : dc13 13 (.getfield 81) 3 := by decide +kernel
theorem d13_16 : dc13 16 (.iload_n 1) 1 := by decide +kernel
theorem d13_17 : dc13 17 .aaload 1 := by decide +kernel
theorem d13_18 : dc13 18 (.astore 4) 2 := by decide +kernel
theorem d13_20 : dc13 20 (.iconst 0) 1 := by decide +kernel
theorem d13_21 : dc13 21 (.istore 5) 2 := by decide +kernel
theorem d13_23 : dc13 23 (.iload 5) 2 := by decide +kernel
theorem d13_25 : dc13 25 (.aload_n 0) 1 := by decide +kernel
theorem d13_26 : dc13 26 (.getfield 39) 3 := by decide +kernel
theorem d13_29 : dc13 29 (.if_icmp .ge 25) 3 := by decide +kernel
theorem d13_32 : dc13 32 (.dload_n 2) 1 := by decide +kernel
theorem d13_33 : dc13 33 (.aload_n 0) 1 := by decide +kernel
theorem d13_34 : dc13 34 (.getfield 84) 3 := by decide +kernel
theorem d13_37 : dc13 37 (.iload 5) 2 := by decide +kernel
theorem d13_39 : dc13 39 .daload 1 := by decide +kernel
theorem d13_40 : dc13 40 (.aload 4) 2 := by decide +kernel
theorem d13_42 : dc13 42 (.iload 5) 2 := by decide +kernel
theorem d13_44 : dc13 44 .daload 1 := by decide +kernel
theorem d13_45 : dc13 45 .dmul 1 := by decide +kernel
theorem d13_46 : dc13 46 .dadd 1 := by decide +kernel
theorem d13_47 : dc13 47 (.dstore_n 2) 1 := by decide +kernel
theorem d13_48 : dc13 48 (.iinc 5 1) 3 := by decide +kernel
theorem d13_51 : dc13 51 (.goto (-28)) 3 := by decide +kernel
theorem d13_54 : dc13 54 (.aload_n 0) 1 := by decide +kernel
theorem d13_55 : dc13 55 (.getfield 87) 3 := by decide +kernel
theorem d13_58 : dc13 58 (.iload_n 1) 1 := by decide +kernel
theorem d13_59 : dc13 59 (.dload_n 2) 1 := by decide +kernel
theorem d13_60 : dc13 60 .dastore 1 := by decide +kernel
theorem d13_61 : dc13 61 (.iinc 1 1) 3 := by decide +kernel
theorem d13_64 : dc13 64 (.goto (-62)) 3 := by decide +kernel
theorem d13_67 : dc13 67 .return_ 1 := by decide +kernel
theorem pn_13 : plainName "com/example/quorumstone/quorumstone/check/Relaxation" = true := by first | (simp [plainName, overriddenIn]; done) | decide +kernel
theorem ef_CMu (m : MethodId)  (A : Nat → Addr) : entryFrame m #[(.ref (A 0))] 6 = mkF m 0 #[vr (A 0), uu, uu, uu, uu, uu] [] := by first | (simp [entryFrame, mkF, argsToLocals, Value.category]; done) | rfl
abbrev QCMu (Z : State) (A : Nat → Addr) (pp cc nx wk ps : Int32) (un : Int64) (op : Int32) (y0 y1 : Value) (h0 : Heap) (n0 : Nat) (v : Option Value) (h : Heap) (L : List Loc) : Prop := v = none ∧ Fr n0 L ∧ Keep h0 h [(A 14)] ∧ Vv Z h (A 14) .double (2 : Int32) [(.double 0), (.double 0)] (.double 0)
set_option maxRecDepth 65536 in
set_option maxHeartbeats 40000000 in
theorem rmCMu (l : Launch) (Z : State) (a0 : Array Value) (hw : TW a0 Z) (ws : List Jvm.Cond) (A : Nat → Addr) (pp cc nx wk ps : Int32) (un : Int64) (op : Int32) (y0 y1 : Value) (h0 : Heap) (n0 : Nat) (Zs : n0 ≤ h0.size) (D : DisA A) (G : FreA A n0) (B_A0 : FL Z h0 (A 0) (rxv A pp cc nx wk ps un op)) (E_A0 : Exa Z h0 (A 0) "com/example/quorumstone/quorumstone/check/Relaxation") (P13 : Vv Z h0 (A 13) .double (2 : Int32) [(.double 0), (.double 0)] (.double 0)) (P14 : Vv Z h0 (A 14) .double (2 : Int32) [y0, y1] (.double 0)) (P10 : Vv Z h0 (A 10) (.array .double) (2 : Int32) [(.ref (A 11)), (.ref (A 12))] .null) (P11 : Vv Z h0 (A 11) .double (2 : Int32) [(.double 4607182418800017408), (.double 0)] (.double 0)) (P12 : Vv Z h0 (A 12) .double (2 : Int32) [(.double 0), (.double 4607182418800017408)] (.double 0)) :
    Mt l (⟨"com/example/quorumstone/quorumstone/check/Relaxation", "computeMultipliers", "()V"⟩ : MethodName) prog_8_method_13_code 6 none ws (rmm 0 0 0 0) #[(.ref (A 0))] Z h0 (QCMu Z A pp cc nx wk ps un op y0 y1 h0 n0) 0 0 := by
  refine own_body n0 (plainFor_of_name pn_13) hw (fun m => ef_CMu m  A) ?_
  intro p ev s m below meth c s₁ Bd hZ hx hby hml hown X0 eh0 N0 w
  obtain ⟨k_A13, V_A13⟩ := P13
  obtain ⟨k_A14, V_A14⟩ := P14
  obtain ⟨k_A10, V_A10⟩ := P10
  obtain ⟨k_A11, V_A11⟩ := P11
  obtain ⟨k_A12, V_A12⟩ := P12
  have nn_A13 : (A 13) ∉ [(A 14)] := (nnA D 13 [14] rfl)
  have nn_A10 : (A 10) ∉ [(A 14)] := (nnA D 10 [14] rfl)
  have nn_A12 : (A 12) ∉ [(A 14)] := (nnA D 12 [14] rfl)
  have nn_A0 : (A 0) ∉ [(A 14)] := (nnA D 0 [14] rfl)
  have K := Keep.refl h0 [(A 14)]
  show GolF _ _ _ _ _ _ _ s₁ m 0 #[vr (A 0), uu, uu, uu, uu, uu] []
  refine Gol.iconst X0 hx hby d13_0 1 rfl (z := (0 : Int32)) rfl ?_
  refine Gol.istoreN X0 hx hby d13_1 2 rfl (l' := #[vr (A 0), vi 0, uu, uu, uu, uu]) rfl ?_
  refine Gol.iloadN X0 hx hby d13_2 3 rfl rfl ?_
  refine Gol.fB X0 hx hby hZ hown (w 36 _ rfl) eh0 B_A0 6 d13_3 d13_4 7 rfl rfl rfl rfl ?_
  intro T1 X1 e1
  refine Gol.icmpNo X1 hx hby d13_7 10 rfl (tlt (by decide : (0 : Int32) < (2 : Int32))).2.1 ?_
  refine Gol.dconst0 X1 hx hby d13_10 11 rfl (v := (0 : UInt64)) (by decide +kernel) ?_
  refine Gol.dstoreN X1 hx hby d13_11 12 rfl (l' := #[vr (A 0), vi 0, vd 0, ss, uu, uu]) rfl ?_
  refine Gol.fB X1 hx hby hZ hown (w 73 _ rfl) e1 B_A0 17 d13_12 d13_13 16 rfl rfl rfl rfl ?_
  intro T2 X2 e2
  refine Gol.iloadN X2 hx hby d13_16 17 rfl rfl ?_
  refine Gol.aaload X2 hx hby hZ e2 V_A10 d13_17 18 rfl rfl ⟨by decide, by decide⟩ (v := (.ref (A 11))) rfl ?_
  refine Gol.astore X2 hx hby d13_18 20 rfl rfl (l' := #[vr (A 0), vi 0, vd 0, ss, vr (A 11), uu]) rfl ?_
  refine Gol.iconst X2 hx hby d13_20 21 rfl (z := (0 : Int32)) rfl ?_
  refine Gol.istore X2 hx hby d13_21 23 rfl (l' := #[vr (A 0), vi 0, vd 0, ss, vr (A 11), vi 0]) rfl ?_
  refine Gol.iload X2 hx hby d13_23 25 rfl rfl ?_
  refine Gol.fB X2 hx hby hZ hown (w 36 _ rfl) e2 B_A0 6 d13_25 d13_26 29 rfl rfl rfl rfl ?_
  intro T3 X3 e3
  refine Gol.icmpNo X3 hx hby d13_29 32 rfl (tlt (by decide : (0 : Int32) < (2 : Int32))).2.1 ?_
  refine Gol.dloadN X3 hx hby d13_32 33 rfl rfl ?_
  refine Gol.fB X3 hx hby hZ hown (w 75 _ rfl) e3 B_A0 18 d13_33 d13_34 37 rfl rfl rfl rfl ?_
  intro T4 X4 e4
  refine Gol.iload X4 hx hby d13_37 39 rfl rfl ?_
  refine Gol.daload X4 hx hby hZ e4 V_A13 d13_39 40 rfl ⟨by decide, by decide⟩ (v := (0 : UInt64)) rfl ?_
  refine Gol.aload X4 hx hby d13_40 42 rfl rfl rfl ?_
  refine Gol.iload X4 hx hby d13_42 44 rfl rfl ?_
  refine Gol.daload X4 hx hby hZ e4 V_A11 d13_44 45 rfl ⟨by decide, by decide⟩ (v := (4607182418800017408 : UInt64)) rfl ?_
  refine Gol.dmul X4 hx hby d13_45 46 rfl (v := (0 : UInt64)) (own_nn (by decide)) (by decide +kernel) ?_
  refine Gol.dadd X4 hx hby d13_46 47 rfl (v := (0 : UInt64)) (own_nn (by decide)) (by decide +kernel) ?_
  refine Gol.dstoreN X4 hx hby d13_47 48 rfl (l' := #[vr (A 0), vi 0, vd 0, ss, vr (A 11), vi 0]) rfl ?_
  refine Gol.iinc X4 hx hby d13_48 51 rfl rfl (l' := #[vr (A 0), vi 0, vd 0, ss, vr (A 11), vi 1]) rfl ?_
  refine Gol.goto X4 hx hby d13_51 23 (by decide) ?_
  refine Gol.iload X4 hx hby d13_23 25 rfl rfl ?_
  refine Gol.fB X4 hx hby hZ hown (w 36 _ rfl) e4 B_A0 6 d13_25 d13_26 29 rfl rfl rfl rfl ?_
  intro T5 X5 e5
  refine Gol.icmpNo X5 hx hby d13_29 32 rfl (tlt (by decide : (1 : Int32) < (2 : Int32))).2.1 ?_
  refine Gol.dloadN X5 hx hby d13_32 33 rfl rfl ?_
  refine Gol.fB X5 hx hby hZ hown (w 75 _ rfl) e5 B_A0 18 d13_33 d13_34 37 rfl rfl rfl rfl ?_
  intro T6 X6 e6
  refine Gol.iload X6 hx hby d13_37 39 rfl rfl ?_
  refine Gol.daload X6 hx hby hZ e6 V_A13 d13_39 40 rfl ⟨by decide, by decide⟩ (v := (0 : UInt64)) rfl ?_
  refine Gol.aload X6 hx hby d13_40 42 rfl rfl rfl ?_
  refine Gol.iload X6 hx hby d13_42 44 rfl rfl ?_
  refine Gol.daload X6 hx hby hZ e6 V_A11 d13_44 45 rfl ⟨by decide, by decide⟩ (v := (0 : UInt64)) rfl ?_
  refine Gol.dmul X6 hx hby d13_45 46 rfl (v := (0 : UInt64)) (own_nn (by decide)) (by decide +kernel) ?_
  refine Gol.dadd X6 hx hby d13_46 47 rfl (v := (0 : UInt64)) (own_nn (by decide)) (by decide +kernel) ?_
  refine Gol.dstoreN X6 hx hby d13_47 48 rfl (l' := #[vr (A 0), vi 0, vd 0, ss, vr (A 11), vi 1]) rfl ?_
  refine Gol.iinc X6 hx hby d13_48 51 rfl rfl (l' := #[vr (A 0), vi 0, vd 0, ss, vr (A 11), vi 2]) rfl ?_
  refine Gol.goto X6 hx hby d13_51 23 (by decide) ?_
  refine Gol.iload X6 hx hby d13_23 25 rfl rfl ?_
  refine Gol.fB X6 hx hby hZ hown (w 36 _ rfl) e6 B_A0 6 d13_25 d13_26 29 rfl rfl rfl rfl ?_
  intro T7 X7 e7
  refine Gol.icmpYes X7 hx hby d13_29 54 (by decide) (flt (by decide : ¬ ((2 : Int32) < (2 : Int32)))).2.1 ?_
  refine Gol.fB X7 hx hby hZ hown (w 77 _ rfl) e7 B_A0 19 d13_54 d13_55 58 rfl rfl rfl rfl ?_
  intro T8 X8 e8
  refine Gol.iloadN X8 hx hby d13_58 59 rfl rfl ?_
  refine Gol.dloadN X8 hx hby d13_59 60 rfl rfl ?_
  refine Gol.dastore X8 hx hby hZ e8 V_A14 d13_60 61 rfl ⟨by decide, by decide⟩ 0 rfl (Nat.le_of_ble_eq_true rfl) ?_
  intro T9 h9 X9 e9 W9 A9
  have V_A14 : Arv Z h9 (A 14) k_A14 .double (2 : Int32) [(.double 0), y1] (.double 0) := A9
  have K := K.wr W9 (Or.inl (List.mem_of_getElem? (i := 0) rfl))
  have N9 := Fr.snoc X9 N0 (G 14 rfl)
  refine Gol.iinc X9 hx hby d13_61 64 rfl rfl (l' := #[vr (A 0), vi 1, vd 0, ss, vr (A 11), vi 2]) rfl ?_
  refine Gol.goto X9 hx hby d13_64 2 (by decide) ?_
  refine Gol.iloadN X9 hx hby d13_2 3 rfl rfl ?_
  refine Gol.fB X9 hx hby hZ hown (w 36 _ rfl) e9 (B_A0.keep K nn_A0) 6 d13_3 d13_4 7 rfl rfl rfl rfl ?_
  intro T10 X10 e10
  refine Gol.icmpNo X10 hx hby d13_7 10 rfl (tlt (by decide : (1 : Int32) < (2 : Int32))).2.1 ?_
  refine Gol.dconst0 X10 hx hby d13_10 11 rfl (v := (0 : UInt64)) (by decide +kernel) ?_
  refine Gol.dstoreN X10 hx hby d13_11 12 rfl (l' := #[vr (A 0), vi 1, vd 0, ss, vr (A 11), vi 2]) rfl ?_
  refine Gol.fB X10 hx hby hZ hown (w 73 _ rfl) e10 (B_A0.keep K nn_A0) 17 d13_12 d13_13 16 rfl rfl rfl rfl ?_
  intro T11 X11 e11
  refine Gol.iloadN X11 hx hby d13_16 17 rfl rfl ?_
  refine Gol.aaload X11 hx hby hZ e11 (V_A10.keep K nn_A10) d13_17 18 rfl rfl ⟨by decide, by decide⟩ (v := (.ref (A 12))) rfl ?_
  refine Gol.astore X11 hx hby d13_18 20 rfl rfl (l' := #[vr (A 0), vi 1, vd 0, ss, vr (A 12), vi 2]) rfl ?_
  refine Gol.iconst X11 hx hby d13_20 21 rfl (z := (0 : Int32)) rfl ?_
  refine Gol.istore X11 hx hby d13_21 23 rfl (l' := #[vr (A 0), vi 1, vd 0, ss, vr (A 12), vi 0]) rfl ?_
  refine Gol.iload X11 hx hby d13_23 25 rfl rfl ?_
  refine Gol.fB X11 hx hby hZ hown (w 36 _ rfl) e11 (B_A0.keep K nn_A0) 6 d13_25 d13_26 29 rfl rfl rfl rfl ?_
  intro T12 X12 e12
  refine Gol.icmpNo X12 hx hby d13_29 32 rfl (tlt (by decide : (0 : Int32) < (2 : Int32))).2.1 ?_
  refine Gol.dloadN X12 hx hby d13_32 33 rfl rfl ?_
  refine Gol.fB X12 hx hby hZ hown (w 75 _ rfl) e12 (B_A0.keep K nn_A0) 18 d13_33 d13_34 37 rfl rfl rfl rfl ?_
  intro T13 X13 e13
  refine Gol.iload X13 hx hby d13_37 39 rfl rfl ?_
  refine Gol.daload X13 hx hby hZ e13 (V_A13.keep K nn_A13) d13_39 40 rfl ⟨by decide, by decide⟩ (v := (0 : UInt64)) rfl ?_
  refine Gol.aload X13 hx hby d13_40 42 rfl rfl rfl ?_
  refine Gol.iload X13 hx hby d13_42 44 rfl rfl ?_
  refine Gol.daload X13 hx hby hZ e13 (V_A12.keep K nn_A12) d13_44 45 rfl ⟨by decide, by decide⟩ (v := (0 : UInt64)) rfl ?_
  refine Gol.dmul X13 hx hby d13_45 46 rfl (v := (0 : UInt64)) (own_nn (by decide)) (by decide +kernel) ?_
  refine Gol.dadd X13 hx hby d13_46 47 rfl (v := (0 : UInt64)) (own_nn (by decide)) (by decide +kernel) ?_
  refine Gol.dstoreN X13 hx hby d13_47 48 rfl (l' := #[vr (A 0), vi 1, vd 0, ss, vr (A 12), vi 0]) rfl ?_
  refine Gol.iinc X13 hx hby d13_48 51 rfl rfl (l' := #[vr (A 0), vi 1, vd 0, ss, vr (A 12), vi 1]) rfl ?_
  refine Gol.goto X13 hx hby d13_51 23 (by decide) ?_
  refine Gol.iload X13 hx hby d13_23 25 rfl rfl ?_
  refine Gol.fB X13 hx hby hZ hown (w 36 _ rfl) e13 (B_A0.keep K nn_A0) 6 d13_25 d13_26 29 rfl rfl rfl rfl ?_
  intro T14 X14 e14
  refine Gol.icmpNo X14 hx hby d13_29 32 rfl (tlt (by decide : (1 : Int32) < (2 : Int32))).2.1 ?_
  refine Gol.dloadN X14 hx hby d13_32 33 rfl rfl ?_
  refine Gol.fB X14 hx hby hZ hown (w 75 _ rfl) e14 (B_A0.keep K nn_A0) 18 d13_33 d13_34 37 rfl rfl rfl rfl ?_
  intro T15 X15 e15
  refine Gol.iload X15 hx hby d13_37 39 rfl rfl ?_
  refine Gol.daload X15 hx hby hZ e15 (V_A13.keep K nn_A13) d13_39 40 rfl ⟨by decide, by decide⟩ (v := (0 : UInt64)) rfl ?_
  refine Gol.aload X15 hx hby d13_40 42 rfl rfl rfl ?_
  refine Gol.iload X15 hx hby d13_42 44 rfl rfl ?_
  refine Gol.daload X15 hx hby hZ e15 (V_A12.keep K nn_A12) d13_44 45 rfl ⟨by decide, by decide⟩ (v := (4607182418800017408 : UInt64)) rfl ?_
  refine Gol.dmul X15 hx hby d13_45 46 rfl (v := (0 : UInt64)) (own_nn (by decide)) (by decide +kernel) ?_
  refine Gol.dadd X15 hx hby d13_46 47 rfl (v := (0 : UInt64)) (own_nn (by decide)) (by decide +kernel) ?_
  refine Gol.dstoreN X15 hx hby d13_47 48 rfl (l' := #[vr (A 0), vi 1, vd 0, ss, vr (A 12), vi 1]) rfl ?_
  refine Gol.iinc X15 hx hby d13_48 51 rfl rfl (l' := #[vr (A 0), vi 1, vd 0, ss, vr (A 12), vi 2]) rfl ?_
  refine Gol.goto X15 hx hby d13_51 23 (by decide) ?_
  refine Gol.iload X15 hx hby d13_23 25 rfl rfl ?_
  refine Gol.fB X15 hx hby hZ hown (w 36 _ rfl) e15 (B_A0.keep K nn_A0) 6 d13_25 d13_26 29 rfl rfl rfl rfl ?_
  intro T16 X16 e16
  refine Gol.icmpYes X16 hx hby d13_29 54 (by decide) (flt (by decide : ¬ ((2 : Int32) < (2 : Int32)))).2.1 ?_
  refine Gol.fB X16 hx hby hZ hown (w 77 _ rfl) e16 (B_A0.keep K nn_A0) 19 d13_54 d13_55 58 rfl rfl rfl rfl ?_
  intro T17 X17 e17
  refine Gol.iloadN X17 hx hby d13_58 59 rfl rfl ?_
  refine Gol.dloadN X17 hx hby d13_59 60 rfl rfl ?_
  refine Gol.dastore X17 hx hby hZ e17 V_A14 d13_60 61 rfl ⟨by decide, by decide⟩ 1 rfl (Nat.le_of_ble_eq_true rfl) ?_
  intro T18 h18 X18 e18 W18 A18
  have V_A14 : Arv Z h18 (A 14) k_A14 .double (2 : Int32) [(.double 0), (.double 0)] (.double 0) := A18
  have K := K.wr W18 (Or.inl (List.mem_of_getElem? (i := 0) rfl))
  have N18 := Fr.snoc X18 N9 (G 14 rfl)
  refine Gol.iinc X18 hx hby d13_61 64 rfl rfl (l' := #[vr (A 0), vi 2, vd 0, ss, vr (A 12), vi 2]) rfl ?_
  refine Gol.goto X18 hx hby d13_64 2 (by decide) ?_
  refine Gol.iloadN X18 hx hby d13_2 3 rfl rfl ?_
  refine Gol.fB X18 hx hby hZ hown (w 36 _ rfl) e18 (B_A0.keep K nn_A0) 6 d13_3 d13_4 7 rfl rfl rfl rfl ?_
  intro T19 X19 e19
  refine Gol.icmpYes X19 hx hby d13_7 67 (by decide) (flt (by decide : ¬ ((2 : Int32) < (2 : Int32)))).2.1 ?_
  exact Gol.ret0 X19 hx hby Bd.returns Bd.notSynchronized d13_67 e19 ⟨rfl, N18, K, ⟨_, V_A14⟩⟩ (by decide) (by decide)
abbrev dc11 (i : Nat) (x : Instr) (n : Nat) : Prop := decode prog_8_method_10_code i = .ok (x, n)
theorem d11_0 : dc11 0 (.iconst 0) 1 := by decide +kernel
theorem d11_1 : dc11 1 (.istore_n 1) 1 := by decide +kernel
theorem d11_2 : dc11 2 (.iload_n 1) 1 := by decide +kernel
theorem d11_3 : dc11 3 (.aload_n 0) 1 := by decide +kernel
theorem d11_4 : dc11 4 (.getfield 39) 3 := by decide +kernel
theorem d11_7 : dc11 7 (.if_icmp .ge 25) 3 := by decide +kernel
theorem d11_10 : dc11 10 (.aload_n 0) 1 := by decide +kernel
theorem d11_11 : dc11 11 (.getfield 84) 3 := by decide +kernel
theorem d11_14 : dc11 14 (.iload_n 1) 1 := by decide +kernel
theorem d11_15 : dc11 15 (.aload_n 0) 1 := by decide +kernel
theorem d11_16 : dc11 16 (.aload_n 0) 1 := by decide +kernel
theorem d11_17 : dc11 17 (.getfield 75) 3 := by decide +kernel
theorem d11_20 : dc11 20 (.iload_n 1) 1 := by decide +kernel
theorem d11_21 : dc11 21 .iaload 1 := by decide +kernel
theorem d11_22 : dc11 22 (.invokevirtual 179) 3 := by decide +kernel
theorem d11_25 : dc11 25 .dastore 1 := by decide +kernel
theorem d11_26 : dc11 26 (.iinc 1 1) 3 := by decide +kernel
theorem d11_29 : dc11 29 (.goto (-27)) 3 := by decide +kernel
theorem d11_32 : dc11 32 (.aload_n 0) 1 := by decide +kernel
theorem d11_33 : dc11 33 (.invokevirtual 182) 3 := by decide +kernel
theorem d11_36 : dc11 36 (.dconst 0) 1 := by decide +kernel
theorem d11_37 : dc11 37 (.dstore_n 1) 1 := by decide +kernel
theorem d11_38 : dc11 38 (.iconst 0) 1 := by decide +kernel
theorem d11_39 : dc11 39 (.istore_n 3) 1 := by decide +kernel
theorem d11_40 : dc11 40 (.iload_n 3) 1 := by decide +kernel
theorem d11_41 : dc11 41 (.aload_n 0) 1 := by decide +kernel
theorem d11_42 : dc11 42 (.getfield 39) 3 := by decide +kernel
theorem d11_45 : dc11 45 (.if_icmp .ge 29) 3 := by decide +kernel
theorem d11_48 : dc11 48 (.dload_n 1) 1 := by decide +kernel
theorem d11_49 : dc11 49 (.aload_n 0) 1 := by decide +kernel
theorem d11_50 : dc11 50 (.getfield 84) 3 := by decide +kernel
theorem d11_53 : dc11 53 (.iload_n 3) 1 := by decide +kernel
theorem d11_54 : dc11 54 .daload 1 := by decide +kernel
theorem d11_55 : dc11 55 (.dconst 0) 1 := by decide +kernel
theorem d11_56 : dc11 56 (.aload_n 0) 1 := by decide +kernel
theorem d11_57 : dc11 57 (.getfield 78) 3 := by decide +kernel
theorem d11_60 : dc11 60 (.iload_n 3) 1 := by decide +kernel
theorem d11_61 : dc11 61 .daload 1 := by decide +kernel
theorem d11_62 : dc11 62 (.invokestatic 141) 3 := by decide +kernel
theorem d11_65 : dc11 65 .dmul 1 := by decide +kernel
theorem d11_66 : dc11 66 .dadd 1 := by decide +kernel
theorem d11_67 : dc11 67 (.dstore_n 1) 1 := by decide +kernel
theorem d11_68 : dc11 68 (.iinc 3 1) 3 := by decide +kernel
theorem d11_71 : dc11 71 (.goto (-31)) 3 := by decide +kernel
theorem d11_74 : dc11 74 (.dload_n 1) 1 := by decide +kernel
theorem d11_75 : dc11 75 .dreturn 1 := by decide +kernel
theorem pn_11 : plainName "com/example/quorumstone/quorumstone/check/Relaxation" = true := by first | (simp [plainName, overriddenIn]; done) | decide +kernel
theorem ef_SSo (m : MethodId)  (A : Nat → Addr) : entryFrame m #[(.ref (A 0))] 4 = mkF m 0 #[vr (A 0), uu, uu, uu] [] := by first | (simp [entryFrame, mkF, argsToLocals, Value.category]; done) | rfl
abbrev QSSo (Z : State) (A : Nat → Addr) (pp cc nx wk ps : Int32) (un : Int64) (op : Int32) (x0 x1 y0 y1 : Value) (h0 : Heap) (n0 : Nat) (v : Option Value) (h : Heap) (L : List Loc) : Prop := v = some (.double 0) ∧ Fr n0 L ∧ Keep h0 h [(A 13), (A 14)] ∧ Vv Z h (A 13) .double (2 : Int32) [(.double 0), (.double 0)] (.double 0) ∧ Vv Z h (A 14) .double (2 : Int32) [(.double 0), (.double 0)] (.double 0)
set_option maxRecDepth 65536 in
set_option maxHeartbeats 40000000 in
theorem rmSSo (l : Launch) (Z : State) (a0 : Array Value) (hw : TW a0 Z) (ws : List Jvm.Cond) (A : Nat → Addr) (pp cc nx wk ps : Int32) (un : Int64) (op : Int32) (x0 x1 y0 y1 : Value) (h0 : Heap) (n0 : Nat) (Zs : n0 ≤ h0.size) (D : DisA A) (G : FreA A n0) (B_A0 : FL Z h0 (A 0) (rxv A pp cc nx wk ps un op)) (E_A0 : Exa Z h0 (A 0) "com/example/quorumstone/quorumstone/check/Relaxation") (P8 : Vv Z h0 (A 8) .int (2 : Int32) [(.int 4), (.int 5)] (.int 0)) (P9 : Vv Z h0 (A 9) .double (2 : Int32) [(.double 4607182418800017408), (.double 4607182418800017408)] (.double 0)) (P13 : Vv Z h0 (A 13) .double (2 : Int32) [x0, x1] (.double 0)) (P14 : Vv Z h0 (A 14) .double (2 : Int32) [y0, y1] (.double 0)) (P10 : Vv Z h0 (A 10) (.array .double) (2 : Int32) [(.ref (A 11)), (.ref (A 12))] .null) (P11 : Vv Z h0 (A 11) .double (2 : Int32) [(.double 4607182418800017408), (.double 0)] (.double 0)) (P12 : Vv Z h0 (A 12) .double (2 : Int32) [(.double 0), (.double 4607182418800017408)] (.double 0)) :
    Mt l (⟨"com/example/quorumstone/quorumstone/check/Relaxation", "startSolve", "()D"⟩ : MethodName) prog_8_method_10_code 4 (some .double) ws (rmm 1 0 0 19) #[(.ref (A 0))] Z h0 (QSSo Z A pp cc nx wk ps un op x0 x1 y0 y1 h0 n0) 0 0 := by
  refine own_body n0 (plainFor_of_name pn_11) hw (fun m => ef_SSo m  A) ?_
  intro p ev s m below meth c s₁ Bd hZ hx hby hml hown X0 eh0 N0 w
  obtain ⟨k_A8, V_A8⟩ := P8
  obtain ⟨k_A9, V_A9⟩ := P9
  obtain ⟨k_A13, V_A13⟩ := P13
  obtain ⟨k_A14, V_A14⟩ := P14
  obtain ⟨k_A10, V_A10⟩ := P10
  obtain ⟨k_A11, V_A11⟩ := P11
  obtain ⟨k_A12, V_A12⟩ := P12
  have nn_A8 : (A 8) ∉ [(A 13), (A 14)] := (nnA D 8 [13, 14] rfl)
  have nn_A9 : (A 9) ∉ [(A 13), (A 14)] := (nnA D 9 [13, 14] rfl)
  have nn_A10 : (A 10) ∉ [(A 13), (A 14)] := (nnA D 10 [13, 14] rfl)
  have nn_A11 : (A 11) ∉ [(A 13), (A 14)] := (nnA D 11 [13, 14] rfl)
  have nn_A12 : (A 12) ∉ [(A 13), (A 14)] := (nnA D 12 [13, 14] rfl)
  have nn_A0 : (A 0) ∉ [(A 13), (A 14)] := (nnA D 0 [13, 14] rfl)
  have K := Keep.refl h0 [(A 13), (A 14)]
  show GolF _ _ _ _ _ _ _ s₁ m 0 #[vr (A 0), uu, uu, uu] []
  refine Gol.iconst X0 hx hby d11_0 1 rfl (z := (0 : Int32)) rfl ?_
  refine Gol.istoreN X0 hx hby d11_1 2 rfl (l' := #[vr (A 0), vi 0, uu, uu]) rfl ?_
  refine Gol.iloadN X0 hx hby d11_2 3 rfl rfl ?_
  refine Gol.fB X0 hx hby hZ hown (w 36 _ rfl) eh0 B_A0 6 d11_3 d11_4 7 rfl rfl rfl rfl ?_
  intro T1 X1 e1
  refine Gol.icmpNo X1 hx hby d11_7 10 rfl (tlt (by decide : (0 : Int32) < (2 : Int32))).2.1 ?_
  refine Gol.fB X1 hx hby hZ hown (w 75 _ rfl) e1 B_A0 18 d11_10 d11_11 14 rfl rfl rfl rfl ?_
  intro T2 X2 e2
  refine Gol.iloadN X2 hx hby d11_14 15 rfl rfl ?_
  refine Gol.aloadN X2 hx hby d11_15 16 rfl rfl rfl ?_
  refine Gol.fB X2 hx hby hZ hown (w 69 _ rfl) e2 B_A0 15 d11_16 d11_17 20 rfl rfl rfl rfl ?_
  intro T3 X3 e3
  refine Gol.iloadN X3 hx hby d11_20 21 rfl rfl ?_
  refine Gol.iaload X3 hx hby hZ e3 V_A8 d11_21 22 rfl ⟨by decide, by decide⟩ (v := (4 : Int32)) rfl ?_
  refine Gol.callQ X3 hx hby hZ hown (z := zM0) 2 [(.int 4)] (a := (A 0)) (w 112 _ rfl) (w 113 _ rfl) (w 101 _ rfl) rfl (w 114 _ rfl) (w 10 _ rfl) (w 115 _ rfl) (by decide) E_A0 (rmPro4 l Z a0 hw []  A pp cc nx wk ps un op h0 n0 Zs B_A0) (by decide) (by decide) e3 (by rw [hml]; rfl) (rest := [(.int 0), (.ref (A 13))]) (Nat.le_of_eq rfl) (by decide) (by decide) (lenOf pd_3 rfl) rfl d11_22 25 rfl ?_
  intro T4 v4 L4 X4 hQ4
  obtain ⟨rfl, Nq4, eq4⟩ := hQ4
  have N4 := Fr.app N0 Nq4
  show GolF _ _ _ _ _ _ _ T4 m 25 #[vr (A 0), vi 0, uu, uu] [(.double 0), (.int 0), (.ref (A 13))]
  refine Gol.dastore X4 hx hby hZ eq4 V_A13 d11_25 26 rfl ⟨by decide, by decide⟩ 0 rfl (Nat.le_of_ble_eq_true rfl) ?_
  intro T5 h5 X5 e5 W5 A5
  have V_A13 : Arv Z h5 (A 13) k_A13 .double (2 : Int32) [(.double 0), x1] (.double 0) := A5
  have V_A14 := V_A14.other W5 (D 14 13 rfl)
  have K := K.wr W5 (Or.inl (List.mem_of_getElem? (i := 0) rfl))
  have Zs := Nat.le_trans Zs (Keep.of_wr W5).1
  have N5 := Fr.snoc X5 N4 (G 13 rfl)
  refine Gol.iinc X5 hx hby d11_26 29 rfl rfl (l' := #[vr (A 0), vi 1, uu, uu]) rfl ?_
  refine Gol.goto X5 hx hby d11_29 2 (by decide) ?_
  refine Gol.iloadN X5 hx hby d11_2 3 rfl rfl ?_
  refine Gol.fB X5 hx hby hZ hown (w 36 _ rfl) e5 (B_A0.keep K nn_A0) 6 d11_3 d11_4 7 rfl rfl rfl rfl ?_
  intro T6 X6 e6
  refine Gol.icmpNo X6 hx hby d11_7 10 rfl (tlt (by decide : (1 : Int32) < (2 : Int32))).2.1 ?_
  refine Gol.fB X6 hx hby hZ hown (w 75 _ rfl) e6 (B_A0.keep K nn_A0) 18 d11_10 d11_11 14 rfl rfl rfl rfl ?_
  intro T7 X7 e7
  refine Gol.iloadN X7 hx hby d11_14 15 rfl rfl ?_
  refine Gol.aloadN X7 hx hby d11_15 16 rfl rfl rfl ?_
  refine Gol.fB X7 hx hby hZ hown (w 69 _ rfl) e7 (B_A0.keep K nn_A0) 15 d11_16 d11_17 20 rfl rfl rfl rfl ?_
  intro T8 X8 e8
  refine Gol.iloadN X8 hx hby d11_20 21 rfl rfl ?_
  refine Gol.iaload X8 hx hby hZ e8 (V_A8.keep K nn_A8) d11_21 22 rfl ⟨by decide, by decide⟩ (v := (5 : Int32)) rfl ?_
  refine Gol.callQ X8 hx hby hZ hown (z := zM0) 2 [(.int 5)] (a := (A 0)) (w 112 _ rfl) (w 113 _ rfl) (w 101 _ rfl) rfl (w 114 _ rfl) (w 10 _ rfl) (w 115 _ rfl) (by decide) (E_A0.keep K) (rmPro5 l Z a0 hw []  A pp cc nx wk ps un op h5 n0 Zs (B_A0.keep K nn_A0)) (by decide) (by decide) e8 (by rw [hml]; rfl) (rest := [(.int 1), (.ref (A 13))]) (Nat.le_of_eq rfl) (by decide) (by decide) (lenOf pd_3 rfl) rfl d11_22 25 rfl ?_
  intro T9 v9 L9 X9 hQ9
  obtain ⟨rfl, Nq9, eq9⟩ := hQ9
  have N9 := Fr.app N5 Nq9
  show GolF _ _ _ _ _ _ _ T9 m 25 #[vr (A 0), vi 1, uu, uu] [(.double 0), (.int 1), (.ref (A 13))]
  refine Gol.dastore X9 hx hby hZ eq9 V_A13 d11_25 26 rfl ⟨by decide, by decide⟩ 1 rfl (Nat.le_of_ble_eq_true rfl) ?_
  intro T10 h10 X10 e10 W10 A10
  have V_A13 : Arv Z h10 (A 13) k_A13 .double (2 : Int32) [(.double 0), (.double 0)] (.double 0) := A10
  have V_A14 := V_A14.other W10 (D 14 13 rfl)
  have K := K.wr W10 (Or.inl (List.mem_of_getElem? (i := 0) rfl))
  have Zs := Nat.le_trans Zs (Keep.of_wr W10).1
  have N10 := Fr.snoc X10 N9 (G 13 rfl)
  refine Gol.iinc X10 hx hby d11_26 29 rfl rfl (l' := #[vr (A 0), vi 2, uu, uu]) rfl ?_
  refine Gol.goto X10 hx hby d11_29 2 (by decide) ?_
  refine Gol.iloadN X10 hx hby d11_2 3 rfl rfl ?_
  refine Gol.fB X10 hx hby hZ hown (w 36 _ rfl) e10 (B_A0.keep K nn_A0) 6 d11_3 d11_4 7 rfl rfl rfl rfl ?_
  intro T11 X11 e11
  refine Gol.icmpYes X11 hx hby d11_7 32 (by decide) (flt (by decide : ¬ ((2 : Int32) < (2 : Int32)))).2.1 ?_
  refine Gol.aloadN X11 hx hby d11_32 33 rfl rfl rfl ?_
  refine Gol.callQ X11 hx hby hZ hown (z := zM0) 0 [] (a := (A 0)) (w 116 _ rfl) (w 117 _ rfl) (w 101 _ rfl) rfl (w 118 _ rfl) (w 10 _ rfl) (w 119 _ rfl) (by decide) (E_A0.keep K) (rmCMu l Z a0 hw []  A pp cc nx wk ps un op y0 y1 h10 n0 Zs D G (B_A0.keep K nn_A0) (E_A0.keep K) ⟨_, V_A13⟩ ⟨_, V_A14⟩ ⟨_, (V_A10.keep K nn_A10)⟩ ⟨_, (V_A11.keep K nn_A11)⟩ ⟨_, (V_A12.keep K nn_A12)⟩ ) (by decide) (by decide) e11 (by rw [hml]; rfl) (rest := []) (Nat.le_of_eq rfl) (by decide) (by decide) (lenOf pd_4 rfl) rfl d11_33 36 rfl ?_
  intro T12 v12 L12 X12 hQ12
  obtain ⟨rfl, Nq12, Kq12, ⟨k12_A14, V_A14⟩⟩ := hQ12
  have N12 := Fr.app N10 Nq12
  have V_A13 := V_A13.keep Kq12 (nnA D 13 [14] rfl)
  have K := K.trans Kq12 (allS (Or.inl (List.mem_of_getElem? (i := 1) rfl)) all0)
  show GolF _ _ _ _ _ _ _ T12 m 36 #[vr (A 0), vi 2, uu, uu] []
  refine Gol.dconst0 X12 hx hby d11_36 37 rfl (v := (0 : UInt64)) (by decide +kernel) ?_
  refine Gol.dstoreN X12 hx hby d11_37 38 rfl (l' := #[vr (A 0), vd 0, ss, uu]) rfl ?_
  refine Gol.iconst X12 hx hby d11_38 39 rfl (z := (0 : Int32)) rfl ?_
  refine Gol.istoreN X12 hx hby d11_39 40 rfl (l' := #[vr (A 0), vd 0, ss, vi 0]) rfl ?_
  refine Gol.iloadN X12 hx hby d11_40 41 rfl rfl ?_
  refine Gol.fB X12 hx hby hZ hown (w 36 _ rfl) rfl (B_A0.keep K nn_A0) 6 d11_41 d11_42 45 rfl rfl rfl rfl ?_
  intro T13 X13 e13
  refine Gol.icmpNo X13 hx hby d11_45 48 rfl (tlt (by decide : (0 : Int32) < (2 : Int32))).2.1 ?_
  refine Gol.dloadN X13 hx hby d11_48 49 rfl rfl ?_
  refine Gol.fB X13 hx hby hZ hown (w 75 _ rfl) e13 (B_A0.keep K nn_A0) 18 d11_49 d11_50 53 rfl rfl rfl rfl ?_
  intro T14 X14 e14
  refine Gol.iloadN X14 hx hby d11_53 54 rfl rfl ?_
  refine Gol.daload X14 hx hby hZ e14 V_A13 d11_54 55 rfl ⟨by decide, by decide⟩ (v := (0 : UInt64)) rfl ?_
  refine Gol.dconst0 X14 hx hby d11_55 56 rfl (v := (0 : UInt64)) (by decide +kernel) ?_
  refine Gol.fB X14 hx hby hZ hown (w 71 _ rfl) e14 (B_A0.keep K nn_A0) 16 d11_56 d11_57 60 rfl rfl rfl rfl ?_
  intro T15 X15 e15
  refine Gol.iloadN X15 hx hby d11_60 61 rfl rfl ?_
  refine Gol.daload X15 hx hby hZ e15 (V_A9.keep K nn_A9) d11_61 62 rfl ⟨by decide, by decide⟩ (v := (4607182418800017408 : UInt64)) rfl ?_
  refine Gol.maxD X15 hx hby hZ hown (w 120 _ rfl) (w 121 _ rfl) (w 3 _ rfl) (w 122 _ rfl) e15 4 d11_62 65 rfl (by rw [hml]; rfl) (Nat.le_of_eq rfl) (by decide) (by decide) (by decide) (by decide) (own_nn (by decide)) (own_nn (by decide)) (v := (4607182418800017408 : UInt64)) (by decide +kernel) ?_
  intro T16 X16 e16
  refine Gol.dmul X16 hx hby d11_65 66 rfl (v := (0 : UInt64)) (own_nn (by decide)) (by decide +kernel) ?_
  refine Gol.dadd X16 hx hby d11_66 67 rfl (v := (0 : UInt64)) (own_nn (by decide)) (by decide +kernel) ?_
  refine Gol.dstoreN X16 hx hby d11_67 68 rfl (l' := #[vr (A 0), vd 0, ss, vi 0]) rfl ?_
  refine Gol.iinc X16 hx hby d11_68 71 rfl rfl (l' := #[vr (A 0), vd 0, ss, vi 1]) rfl ?_
  refine Gol.goto X16 hx hby d11_71 40 (by decide) ?_
  refine Gol.iloadN X16 hx hby d11_40 41 rfl rfl ?_
  refine Gol.fB X16 hx hby hZ hown (w 36 _ rfl) e16 (B_A0.keep K nn_A0) 6 d11_41 d11_42 45 rfl rfl rfl rfl ?_
  intro T17 X17 e17
  refine Gol.icmpNo X17 hx hby d11_45 48 rfl (tlt (by decide : (1 : Int32) < (2 : Int32))).2.1 ?_
  refine Gol.dloadN X17 hx hby d11_48 49 rfl rfl ?_
  refine Gol.fB X17 hx hby hZ hown (w 75 _ rfl) e17 (B_A0.keep K nn_A0) 18 d11_49 d11_50 53 rfl rfl rfl rfl ?_
  intro T18 X18 e18
  refine Gol.iloadN X18 hx hby d11_53 54 rfl rfl ?_
  refine Gol.daload X18 hx hby hZ e18 V_A13 d11_54 55 rfl ⟨by decide, by decide⟩ (v := (0 : UInt64)) rfl ?_
  refine Gol.dconst0 X18 hx hby d11_55 56 rfl (v := (0 : UInt64)) (by decide +kernel) ?_
  refine Gol.fB X18 hx hby hZ hown (w 71 _ rfl) e18 (B_A0.keep K nn_A0) 16 d11_56 d11_57 60 rfl rfl rfl rfl ?_
  intro T19 X19 e19
  refine Gol.iloadN X19 hx hby d11_60 61 rfl rfl ?_
  refine Gol.daload X19 hx hby hZ e19 (V_A9.keep K nn_A9) d11_61 62 rfl ⟨by decide, by decide⟩ (v := (4607182418800017408 : UInt64)) rfl ?_
  refine Gol.maxD X19 hx hby hZ hown (w 120 _ rfl) (w 121 _ rfl) (w 3 _ rfl) (w 122 _ rfl) e19 4 d11_62 65 rfl (by rw [hml]; rfl) (Nat.le_of_eq rfl) (by decide) (by decide) (by decide) (by decide) (own_nn (by decide)) (own_nn (by decide)) (v := (4607182418800017408 : UInt64)) (by decide +kernel) ?_
  intro T20 X20 e20
  refine Gol.dmul X20 hx hby d11_65 66 rfl (v := (0 : UInt64)) (own_nn (by decide)) (by decide +kernel) ?_
  refine Gol.dadd X20 hx hby d11_66 67 rfl (v := (0 : UInt64)) (own_nn (by decide)) (by decide +kernel) ?_
  refine Gol.dstoreN X20 hx hby d11_67 68 rfl (l' := #[vr (A 0), vd 0, ss, vi 1]) rfl ?_
  refine Gol.iinc X20 hx hby d11_68 71 rfl rfl (l' := #[vr (A 0), vd 0, ss, vi 2]) rfl ?_
  refine Gol.goto X20 hx hby d11_71 40 (by decide) ?_
  refine Gol.iloadN X20 hx hby d11_40 41 rfl rfl ?_
  refine Gol.fB X20 hx hby hZ hown (w 36 _ rfl) e20 (B_A0.keep K nn_A0) 6 d11_41 d11_42 45 rfl rfl rfl rfl ?_
  intro T21 X21 e21
  refine Gol.icmpYes X21 hx hby d11_45 74 (by decide) (flt (by decide : ¬ ((2 : Int32) < (2 : Int32)))).2.1 ?_
  refine Gol.dloadN X21 hx hby d11_74 75 rfl rfl ?_
  exact Gol.retD X21 hx hby Bd.returns Bd.notSynchronized d11_75 e21 ⟨rfl, N12, K, ⟨_, V_A13⟩, ⟨_, V_A14⟩⟩ (by decide) (by decide)
abbrev dc18 (i : Nat) (x : Instr) (n : Nat) : Prop := decode prog_8_method_12_code i = .ok (x, n)
theorem d18_0 : dc18 0 (.iload_n 1) 1 := by decide +kernel
theorem d18_1 : dc18 1 (.aload_n 0) 1 := by decide +kernel
theorem d18_2 : dc18 2 (.getfield 54) 3 := by decide +kernel
theorem d18_5 : dc18 5 (.if_icmp .ge 54) 3 := by decide +kernel
theorem d18_8 : dc18 8 (.aload_n 0) 1 := by decide +kernel
theorem d18_9 : dc18 9 (.iload_n 1) 1 := by decide +kernel
theorem d18_10 : dc18 10 (.invokevirtual 179) 3 := by decide +kernel
theorem d18_13 : dc18 13 (.dstore_n 2) 1 := by decide +kernel
theorem d18_14 : dc18 14 (.aload_n 0) 1 := by decide +kernel
theorem d18_15 : dc18 15 (.getfield 57) 3 := by decide +kernel
theorem d18_18 : dc18 18 (.iload_n 1) 1 := by decide +kernel
theorem d18_19 : dc18 19 .iaload 1 := by decide +kernel
theorem d18_20 : dc18 20 (.istore 4) 2 := by decide +kernel
theorem d18_22 : dc18 22 (.iload 4) 2 := by decide +kernel
theorem d18_24 : dc18 24 (.aload_n 0) 1 := by decide +kernel
theorem d18_25 : dc18 25 (.getfield 57) 3 := by decide +kernel
theorem d18_28 : dc18 28 (.iload_n 1) 1 := by decide +kernel
theorem d18_29 : dc18 29 (.iconst 1) 1 := by decide +kernel
theorem d18_30 : dc18 30 .iadd 1 := by decide +kernel
theorem d18_31 : dc18 31 .iaload 1 := by decide +kernel
theorem d18_32 : dc18 32 (.if_icmp .ge 24) 3 := by decide +kernel
theorem d18_35 : dc18 35 (.dload_n 2) 1 := by decide +kernel
theorem d18_36 : dc18 36 (.aload_n 0) 1 := by decide +kernel
theorem d18_37 : dc18 37 (.getfield 87) 3 := by decide +kernel
theorem d18_40 : dc18 40 (.aload_n 0) 1 := by decide +kernel
theorem d18_41 : dc18 41 (.getfield 66) 3 := by decide +kernel
theorem d18_44 : dc18 44 (.iload 4) 2 := by decide +kernel
theorem d18_46 : dc18 46 .iaload 1 := by decide +kernel
theorem d18_47 : dc18 47 .daload 1 := by decide +kernel
theorem d18_48 : dc18 48 .dsub 1 := by decide +kernel
theorem d18_49 : dc18 49 (.dstore_n 2) 1 := by decide +kernel
theorem d18_50 : dc18 50 (.iinc 4 1) 3 := by decide +kernel
theorem d18_53 : dc18 53 (.goto (-31)) 3 := by decide +kernel
theorem d18_56 : dc18 56 (.goto 55) 3 := by decide +kernel
theorem d18_111 : dc18 111 (.dload_n 2) 1 := by decide +kernel
theorem d18_112 : dc18 112 .dreturn 1 := by decide +kernel
theorem pn_18 : plainName "com/example/quorumstone/quorumstone/check/Relaxation" = true := by first | (simp [plainName, overriddenIn]; done) | decide +kernel
theorem ef_Red (m : MethodId) (p1 : Int32) (A : Nat → Addr) : entryFrame m #[(.ref (A 0)), (.int p1)] 5 = mkF m 0 #[vr (A 0), vi p1, uu, uu, uu] [] := by first | (simp [entryFrame, mkF, argsToLocals, Value.category]; done) | rfl
abbrev QRed (Z : State) (p1 : Int32) (A : Nat → Addr) (pp cc nx wk ps : Int32) (un : Int64) (op nd0 nd1 tk0 tk1 dc0 dc1 : Int32) (m0 m1 : UInt64) (h0 : Heap) (n0 : Nat) (v : Option Value) (h : Heap) (L : List Loc) : Prop := v = some (.double (FP.l2d (prf p1 nd0 nd1 tk0 tk1))) ∧ Fr n0 L ∧ h = h0
set_option maxRecDepth 65536 in
set_option maxHeartbeats 40000000 in
theorem rmRed (l : Launch) (Z : State) (a0 : Array Value) (hw : TW a0 Z) (ws : List Jvm.Cond) (p1 : Int32) (A : Nat → Addr) (pp cc nx wk ps : Int32) (un : Int64) (op nd0 nd1 tk0 tk1 dc0 dc1 : Int32) (m0 m1 : UInt64) (h0 : Heap) (n0 : Nat) (Zs : n0 ≤ h0.size) (D : DisA A) (G : FreA A n0) (B_A0 : FL Z h0 (A 0) (rxv A pp cc nx wk ps un op)) (E_A0 : Exa Z h0 (A 0) "com/example/quorumstone/quorumstone/check/Relaxation") (P2 : Vv Z h0 (A 2) .int (2 : Int32) [(.int nd0), (.int nd1)] (.int 0)) (P3 : Vv Z h0 (A 3) .int (2 : Int32) [(.int tk0), (.int tk1)] (.int 0)) (P5 : Vv Z h0 (A 5) .int (3 : Int32) [(.int 0), (.int 1), (.int 2)] (.int 0)) (P6 : Vv Z h0 (A 6) .int (2 : Int32) [(.int dc0), (.int dc1)] (.int 0)) (P14 : Vv Z h0 (A 14) .double (2 : Int32) [(.double m0), (.double m1)] (.double 0)) (ha : B01 p1) (hdc0 : B01 dc0) (hdc1 : B01 dc1) (hm : sel (sel p1 dc0 dc1) m0 m1 = 0) :
    Mt l (⟨"com/example/quorumstone/quorumstone/check/Relaxation", "reducedProfit", "(I)D"⟩ : MethodName) prog_8_method_12_code 5 (some .double) ws (rmm 2 0 0 28) #[(.ref (A 0)), (.int p1)] Z h0 (QRed Z p1 A pp cc nx wk ps un op nd0 nd1 tk0 tk1 dc0 dc1 m0 m1 h0 n0) 0 0 := by
  refine own_body n0 (plainFor_of_name pn_18) hw (fun m => ef_Red m p1 A) ?_
  intro p ev s m below meth c s₁ Bd hZ hx hby hml hown X0 eh0 N0 w
  obtain ⟨k_A2, V_A2⟩ := P2
  obtain ⟨k_A3, V_A3⟩ := P3
  obtain ⟨k_A5, V_A5⟩ := P5
  obtain ⟨k_A6, V_A6⟩ := P6
  obtain ⟨k_A14, V_A14⟩ := P14
  show GolF _ _ _ _ _ _ _ s₁ m 0 #[vr (A 0), vi p1, uu, uu, uu] []
  refine Gol.iloadN X0 hx hby d18_0 1 rfl rfl ?_
  refine Gol.fB X0 hx hby hZ hown (w 46 _ rfl) eh0 B_A0 11 d18_1 d18_2 5 rfl rfl rfl rfl ?_
  intro T1 X1 e1
  refine Gol.icmpNo X1 hx hby d18_5 8 rfl (tlt (own_lt2 ha)).2.1 ?_
  refine Gol.aloadN X1 hx hby d18_8 9 rfl rfl rfl ?_
  refine Gol.iloadN X1 hx hby d18_9 10 rfl rfl ?_
  refine Gol.callQ X1 hx hby hZ hown (z := zM0) 0 [(.int p1)] (a := (A 0)) (w 112 _ rfl) (w 113 _ rfl) (w 101 _ rfl) rfl (w 114 _ rfl) (w 10 _ rfl) (w 115 _ rfl) (by decide) E_A0 (rmProD l Z a0 hw [] p1 A pp cc nx wk ps un op nd0 nd1 tk0 tk1 h0 n0 Zs B_A0 ⟨_, V_A2⟩ ⟨_, V_A3⟩ ha) (by decide) (by decide) e1 (by rw [hml]; rfl) (rest := []) (Nat.le_of_eq rfl) (by decide) (by decide) (lenOf pd_3 rfl) rfl d18_10 13 rfl ?_
  intro T2 v2 L2 X2 hQ2
  obtain ⟨rfl, Nq2, eq2⟩ := hQ2
  have N2 := Fr.app N0 Nq2
  show GolF _ _ _ _ _ _ _ T2 m 13 #[vr (A 0), vi p1, uu, uu, uu] [(.double (FP.l2d (prf p1 nd0 nd1 tk0 tk1)))]
  refine Gol.dstoreN X2 hx hby d18_13 14 rfl (l' := #[vr (A 0), vi p1, vd (FP.l2d (prf p1 nd0 nd1 tk0 tk1)), ss, uu]) rfl ?_
  refine Gol.fB X2 hx hby hZ hown (w 48 _ rfl) eq2 B_A0 12 d18_14 d18_15 18 rfl rfl rfl rfl ?_
  intro T3 X3 e3
  refine Gol.iloadN X3 hx hby d18_18 19 rfl rfl ?_
  refine Gol.iaload X3 hx hby hZ e3 V_A5 d18_19 20 rfl (own_in3 ha) (v := p1) (own_ds0 ha) ?_
  refine Gol.istore X3 hx hby d18_20 22 rfl (l' := #[vr (A 0), vi p1, vd (FP.l2d (prf p1 nd0 nd1 tk0 tk1)), ss, vi p1]) rfl ?_
  refine Gol.iload X3 hx hby d18_22 24 rfl rfl ?_
  refine Gol.fB X3 hx hby hZ hown (w 48 _ rfl) e3 B_A0 12 d18_24 d18_25 28 rfl rfl rfl rfl ?_
  intro T4 X4 e4
  refine Gol.iloadN X4 hx hby d18_28 29 rfl rfl ?_
  refine Gol.iconst X4 hx hby d18_29 30 rfl (z := (1 : Int32)) rfl ?_
  refine Gol.iadd X4 hx hby d18_30 31 rfl rfl ?_
  refine Gol.iaload X4 hx hby hZ e4 V_A5 d18_31 32 rfl (own_in31 ha) (v := (p1 + (1 : Int32))) (own_ds1 ha) ?_
  refine Gol.icmpNo X4 hx hby d18_32 35 rfl (tlt (own_lts ha)).2.1 ?_
  refine Gol.dloadN X4 hx hby d18_35 36 rfl rfl ?_
  refine Gol.fB X4 hx hby hZ hown (w 77 _ rfl) e4 B_A0 19 d18_36 d18_37 40 rfl rfl rfl rfl ?_
  intro T5 X5 e5
  refine Gol.fB X5 hx hby hZ hown (w 57 _ rfl) e5 B_A0 13 d18_40 d18_41 44 rfl rfl rfl rfl ?_
  intro T6 X6 e6
  refine Gol.iload X6 hx hby d18_44 46 rfl rfl ?_
  refine Gol.iaload X6 hx hby hZ e6 V_A6 d18_46 47 rfl (own_in2 ha) (v := (sel p1 dc0 dc1)) (own_rI ha) ?_
  refine Gol.daload X6 hx hby hZ e6 V_A14 d18_47 48 rfl (own_in2 (own_selB hdc0 hdc1)) (v := (0 : UInt64)) ((own_rD (own_selB hdc0 hdc1)).trans (congrArg Value.double hm)) ?_
  refine Gol.dsub X6 hx hby d18_48 49 rfl (v := (FP.l2d (prf p1 nd0 nd1 tk0 tk1))) own_fin (own_sub0 (own_b53 _)) ?_
  refine Gol.dstoreN X6 hx hby d18_49 50 rfl (l' := #[vr (A 0), vi p1, vd (FP.l2d (prf p1 nd0 nd1 tk0 tk1)), ss, vi p1]) rfl ?_
  refine Gol.iinc X6 hx hby d18_50 53 rfl rfl (l' := #[vr (A 0), vi p1, vd (FP.l2d (prf p1 nd0 nd1 tk0 tk1)), ss, vi (p1 + (1 : Int32))]) rfl ?_
  refine Gol.goto X6 hx hby d18_53 22 (by decide) ?_
  refine Gol.iload X6 hx hby d18_22 24 rfl rfl ?_
  refine Gol.fB X6 hx hby hZ hown (w 48 _ rfl) e6 B_A0 12 d18_24 d18_25 28 rfl rfl rfl rfl ?_
  intro T7 X7 e7
  refine Gol.iloadN X7 hx hby d18_28 29 rfl rfl ?_
  refine Gol.iconst X7 hx hby d18_29 30 rfl (z := (1 : Int32)) rfl ?_
  refine Gol.iadd X7 hx hby d18_30 31 rfl rfl ?_
  refine Gol.iaload X7 hx hby hZ e7 V_A5 d18_31 32 rfl (own_in31 ha) (v := (p1 + (1 : Int32))) (own_ds1 ha) ?_
  refine Gol.icmpYes X7 hx hby d18_32 56 (by decide) (flt Int32.lt_irrefl).2.1 ?_
  refine Gol.goto X7 hx hby d18_56 111 (by decide) ?_
  refine Gol.dloadN X7 hx hby d18_111 112 rfl rfl ?_
  exact Gol.retD X7 hx hby Bd.returns Bd.notSynchronized d18_112 e7 ⟨rfl, N2, rfl⟩ (by decide) (by decide)
abbrev dc15 (i : Nat) (x : Instr) (n : Nat) : Prop := decode prog_8_method_14_code i = .ok (x, n)
theorem d15_0 : dc15 0 (.iconst (-1)) 1 := by decide +kernel
theorem d15_1 : dc15 1 (.istore_n 1) 1 := by decide +kernel
theorem d15_2 : dc15 2 (.ldc2_w 147) 3 := by decide +kernel
theorem d15_5 : dc15 5 (.dstore_n 2) 1 := by decide +kernel
theorem d15_6 : dc15 6 (.iconst 0) 1 := by decide +kernel
theorem d15_7 : dc15 7 (.istore 4) 2 := by decide +kernel
theorem d15_9 : dc15 9 (.iload 4) 2 := by decide +kernel
theorem d15_11 : dc15 11 (.aload_n 0) 1 := by decide +kernel
theorem d15_12 : dc15 12 (.getfield 116) 3 := by decide +kernel
theorem d15_15 : dc15 15 (.if_icmp .ge 49) 3 := by decide +kernel
theorem d15_64 : dc15 64 (.iload_n 1) 1 := by decide +kernel
theorem d15_65 : dc15 65 .ireturn 1 := by decide +kernel
theorem pn_15 : plainName "com/example/quorumstone/quorumstone/check/Relaxation" = true := by first | (simp [plainName, overriddenIn]; done) | decide +kernel
theorem ef_Best0 (m : MethodId)  (A : Nat → Addr) : entryFrame m #[(.ref (A 0))] 8 = mkF m 0 #[vr (A 0), uu, uu, uu, uu, uu, uu, uu] [] := by first | (simp [entryFrame, mkF, argsToLocals, Value.category]; done) | rfl
abbrev QBest0 (Z : State) (A : Nat → Addr) (pp nx wk ps : Int32) (un : Int64) (op : Int32) (h0 : Heap) (n0 : Nat) (v : Option Value) (h : Heap) (L : List Loc) : Prop := v = some (.int (-1)) ∧ Fr n0 L ∧ h = h0
set_option maxRecDepth 65536 in
set_option maxHeartbeats 40000000 in
theorem rmBest0 (l : Launch) (Z : State) (a0 : Array Value) (hw : TW a0 Z) (ws : List Jvm.Cond) (A : Nat → Addr) (pp nx wk ps : Int32) (un : Int64) (op : Int32) (h0 : Heap) (n0 : Nat) (Zs : n0 ≤ h0.size) (D : DisA A) (G : FreA A n0) (B_A0 : FL Z h0 (A 0) (rxv A pp (0 : Int32) nx wk ps un op)) (E_A0 : Exa Z h0 (A 0) "com/example/quorumstone/quorumstone/check/Relaxation") :
    Mt l (⟨"com/example/quorumstone/quorumstone/check/Relaxation", "bestCandidate", "()I"⟩ : MethodName) prog_8_method_14_code 8 (some .int) ws (rmm 0 0 0 0) #[(.ref (A 0))] Z h0 (QBest0 Z A pp nx wk ps un op h0 n0) 0 0 := by
  refine own_body n0 (plainFor_of_name pn_15) hw (fun m => ef_Best0 m  A) ?_
  intro p ev s m below meth c s₁ Bd hZ hx hby hml hown X0 eh0 N0 w
  show GolF _ _ _ _ _ _ _ s₁ m 0 #[vr (A 0), uu, uu, uu, uu, uu, uu, uu] []
  refine Gol.iconst X0 hx hby d15_0 1 rfl (z := (-1 : Int32)) rfl ?_
  refine Gol.istoreN X0 hx hby d15_1 2 rfl (l' := #[vr (A 0), vi (-1), uu, uu, uu, uu, uu, uu]) rfl ?_
  refine Gol.ldc2Double X0 hx hby hZ hown d15_2 5 rfl (w 131 _ rfl) ?_
  refine Gol.dstoreN X0 hx hby d15_5 6 rfl (l' := #[vr (A 0), vi (-1), vd 4472406533629990549, ss, uu, uu, uu, uu]) rfl ?_
  refine Gol.iconst X0 hx hby d15_6 7 rfl (z := (0 : Int32)) rfl ?_
  refine Gol.istore X0 hx hby d15_7 9 rfl (l' := #[vr (A 0), vi (-1), vd 4472406533629990549, ss, vi 0, uu, uu, uu]) rfl ?_
  refine Gol.iload X0 hx hby d15_9 11 rfl rfl ?_
  refine Gol.fB X0 hx hby hZ hown (w 123 _ rfl) eh0 B_A0 25 d15_11 d15_12 15 rfl rfl rfl rfl ?_
  intro T1 X1 e1
  refine Gol.icmpYes X1 hx hby d15_15 64 (by decide) (flt (by decide : ¬ ((0 : Int32) < (0 : Int32)))).2.1 ?_
  refine Gol.iloadN X1 hx hby d15_64 65 rfl rfl ?_
  exact Gol.retI X1 hx hby Bd.returns Bd.notSynchronized d15_65 e1 ⟨rfl, N0, rfl⟩ (by decide) (by decide)
theorem d15_18 : dc15 18 (.aload_n 0) 1 := by decide +kernel
theorem d15_19 : dc15 19 (.getfield 12) 3 := by decide +kernel
theorem d15_22 : dc15 22 (.iload 4) 2 := by decide +kernel
theorem d15_24 : dc15 24 .iaload 1 := by decide +kernel
theorem d15_25 : dc15 25 (.istore 5) 2 := by decide +kernel
theorem d15_27 : dc15 27 (.aload_n 0) 1 := by decide +kernel
theorem d15_28 : dc15 28 (.getfield 72) 3 := by decide +kernel
theorem d15_31 : dc15 31 (.iload 5) 2 := by decide +kernel
theorem d15_33 : dc15 33 .iaload 1 := by decide +kernel
theorem d15_34 : dc15 34 (.ifCond .ge 24) 3 := by decide +kernel
theorem d15_58 : dc15 58 (.iinc 4 1) 3 := by decide +kernel
theorem d15_61 : dc15 61 (.goto (-52)) 3 := by decide +kernel
theorem ef_Best1 (m : MethodId)  (A : Nat → Addr) : entryFrame m #[(.ref (A 0))] 8 = mkF m 0 #[vr (A 0), uu, uu, uu, uu, uu, uu, uu] [] := by first | (simp [entryFrame, mkF, argsToLocals, Value.category]; done) | rfl
abbrev QBest1 (Z : State) (A : Nat → Addr) (pp nx wk ps : Int32) (un : Int64) (op a : Int32) (c1 c2 c3 c4 c5 c6 c7 : Value) (x0 x1 y0 y1 : Int32) (h0 : Heap) (n0 : Nat) (v : Option Value) (h : Heap) (L : List Loc) : Prop := v = some (.int (-1)) ∧ Fr n0 L ∧ h = h0
set_option maxRecDepth 65536 in
set_option maxHeartbeats 40000000 in
theorem rmBest1 (l : Launch) (Z : State) (a0 : Array Value) (hw : TW a0 Z) (ws : List Jvm.Cond) (A : Nat → Addr) (pp nx wk ps : Int32) (un : Int64) (op a : Int32) (c1 c2 c3 c4 c5 c6 c7 : Value) (x0 x1 y0 y1 : Int32) (h0 : Heap) (n0 : Nat) (Zs : n0 ≤ h0.size) (D : DisA A) (G : FreA A n0) (B_A0 : FL Z h0 (A 0) (rxv A pp (1 : Int32) nx wk ps un op)) (E_A0 : Exa Z h0 (A 0) "com/example/quorumstone/quorumstone/check/Relaxation") (P17 : Vv Z h0 (A 17) .int (8 : Int32) [(.int a), c1, c2, c3, c4, c5, c6, c7] (.int 0)) (P7 : Vv Z h0 (A 7) .int (6 : Int32) [(.int x0), (.int x1), (.int (-1)), (.int (-1)), (.int y0), (.int y1)] (.int 0)) (ha : B01 a) (hba : ¬ sel a x0 x1 < 0) :
    Mt l (⟨"com/example/quorumstone/quorumstone/check/Relaxation", "bestCandidate", "()I"⟩ : MethodName) prog_8_method_14_code 8 (some .int) ws (rmm 0 0 0 0) #[(.ref (A 0))] Z h0 (QBest1 Z A pp nx wk ps un op a c1 c2 c3 c4 c5 c6 c7 x0 x1 y0 y1 h0 n0) 0 0 := by
  refine own_body n0 (plainFor_of_name pn_15) hw (fun m => ef_Best1 m  A) ?_
  intro p ev s m below meth c s₁ Bd hZ hx hby hml hown X0 eh0 N0 w
  obtain ⟨k_A17, V_A17⟩ := P17
  obtain ⟨k_A7, V_A7⟩ := P7
  show GolF _ _ _ _ _ _ _ s₁ m 0 #[vr (A 0), uu, uu, uu, uu, uu, uu, uu] []
  refine Gol.iconst X0 hx hby d15_0 1 rfl (z := (-1 : Int32)) rfl ?_
  refine Gol.istoreN X0 hx hby d15_1 2 rfl (l' := #[vr (A 0), vi (-1), uu, uu, uu, uu, uu, uu]) rfl ?_
  refine Gol.ldc2Double X0 hx hby hZ hown d15_2 5 rfl (w 131 _ rfl) ?_
  refine Gol.dstoreN X0 hx hby d15_5 6 rfl (l' := #[vr (A 0), vi (-1), vd 4472406533629990549, ss, uu, uu, uu, uu]) rfl ?_
  refine Gol.iconst X0 hx hby d15_6 7 rfl (z := (0 : Int32)) rfl ?_
  refine Gol.istore X0 hx hby d15_7 9 rfl (l' := #[vr (A 0), vi (-1), vd 4472406533629990549, ss, vi 0, uu, uu, uu]) rfl ?_
  refine Gol.iload X0 hx hby d15_9 11 rfl rfl ?_
  refine Gol.fB X0 hx hby hZ hown (w 123 _ rfl) eh0 B_A0 25 d15_11 d15_12 15 rfl rfl rfl rfl ?_
  intro T1 X1 e1
  refine Gol.icmpNo X1 hx hby d15_15 18 rfl (tlt (by decide : (0 : Int32) < (1 : Int32))).2.1 ?_
  refine Gol.fB X1 hx hby hZ hown (w 17 _ rfl) e1 B_A0 0 d15_18 d15_19 22 rfl rfl rfl rfl ?_
  intro T2 X2 e2
  refine Gol.iload X2 hx hby d15_22 24 rfl rfl ?_
  refine Gol.iaload X2 hx hby hZ e2 V_A17 d15_24 25 rfl ⟨by decide, by decide⟩ (v := a) rfl ?_
  refine Gol.istore X2 hx hby d15_25 27 rfl (l' := #[vr (A 0), vi (-1), vd 4472406533629990549, ss, vi 0, vi a, uu, uu]) rfl ?_
  refine Gol.fB X2 hx hby hZ hown (w 67 _ rfl) e2 B_A0 14 d15_27 d15_28 31 rfl rfl rfl rfl ?_
  intro T3 X3 e3
  refine Gol.iload X3 hx hby d15_31 33 rfl rfl ?_
  refine Gol.iaload X3 hx hby hZ e3 V_A7 d15_33 34 rfl (own_in6 ha) (v := (sel a x0 x1)) (own_rI ha) ?_
  refine Gol.ifYes X3 hx hby d15_34 58 (by decide) ((if0 _ _).trans (flt hba).2.1) ?_
  refine Gol.iinc X3 hx hby d15_58 61 rfl rfl (l' := #[vr (A 0), vi (-1), vd 4472406533629990549, ss, vi 1, vi a, uu, uu]) rfl ?_
  refine Gol.goto X3 hx hby d15_61 9 (by decide) ?_
  refine Gol.iload X3 hx hby d15_9 11 rfl rfl ?_
  refine Gol.fB X3 hx hby hZ hown (w 123 _ rfl) e3 B_A0 25 d15_11 d15_12 15 rfl rfl rfl rfl ?_
  intro T4 X4 e4
  refine Gol.icmpYes X4 hx hby d15_15 64 (by decide) (flt (by decide : ¬ ((1 : Int32) < (1 : Int32)))).2.1 ?_
  refine Gol.iloadN X4 hx hby d15_64 65 rfl rfl ?_
  exact Gol.retI X4 hx hby Bd.returns Bd.notSynchronized d15_65 e4 ⟨rfl, N0, rfl⟩ (by decide) (by decide)
theorem ef_Best2n (m : MethodId)  (A : Nat → Addr) : entryFrame m #[(.ref (A 0))] 8 = mkF m 0 #[vr (A 0), uu, uu, uu, uu, uu, uu, uu] [] := by first | (simp [entryFrame, mkF, argsToLocals, Value.category]; done) | rfl
abbrev QBest2n (Z : State) (A : Nat → Addr) (pp nx wk ps : Int32) (un : Int64) (op a b : Int32) (c2 c3 c4 c5 c6 c7 : Value) (x0 x1 y0 y1 : Int32) (h0 : Heap) (n0 : Nat) (v : Option Value) (h : Heap) (L : List Loc) : Prop := v = some (.int (-1)) ∧ Fr n0 L ∧ h = h0
set_option maxRecDepth 65536 in
set_option maxHeartbeats 40000000 in
theorem rmBest2n (l : Launch) (Z : State) (a0 : Array Value) (hw : TW a0 Z) (ws : List Jvm.Cond) (A : Nat → Addr) (pp nx wk ps : Int32) (un : Int64) (op a b : Int32) (c2 c3 c4 c5 c6 c7 : Value) (x0 x1 y0 y1 : Int32) (h0 : Heap) (n0 : Nat) (Zs : n0 ≤ h0.size) (D : DisA A) (G : FreA A n0) (B_A0 : FL Z h0 (A 0) (rxv A pp (2 : Int32) nx wk ps un op)) (E_A0 : Exa Z h0 (A 0) "com/example/quorumstone/quorumstone/check/Relaxation") (P17 : Vv Z h0 (A 17) .int (8 : Int32) [(.int a), (.int b), c2, c3, c4, c5, c6, c7] (.int 0)) (P7 : Vv Z h0 (A 7) .int (6 : Int32) [(.int x0), (.int x1), (.int (-1)), (.int (-1)), (.int y0), (.int y1)] (.int 0)) (ha : B01 a) (hb : B01 b) (hba : ¬ sel a x0 x1 < 0) (hbb : ¬ sel b x0 x1 < 0) :
    Mt l (⟨"com/example/quorumstone/quorumstone/check/Relaxation", "bestCandidate", "()I"⟩ : MethodName) prog_8_method_14_code 8 (some .int) ws (rmm 0 0 0 0) #[(.ref (A 0))] Z h0 (QBest2n Z A pp nx wk ps un op a b c2 c3 c4 c5 c6 c7 x0 x1 y0 y1 h0 n0) 0 0 := by
  refine own_body n0 (plainFor_of_name pn_15) hw (fun m => ef_Best2n m  A) ?_
  intro p ev s m below meth c s₁ Bd hZ hx hby hml hown X0 eh0 N0 w
  obtain ⟨k_A17, V_A17⟩ := P17
  obtain ⟨k_A7, V_A7⟩ := P7
  show GolF _ _ _ _ _ _ _ s₁ m 0 #[vr (A 0), uu, uu, uu, uu, uu, uu, uu] []
  refine Gol.iconst X0 hx hby d15_0 1 rfl (z := (-1 : Int32)) rfl ?_
  refine Gol.istoreN X0 hx hby d15_1 2 rfl (l' := #[vr (A 0), vi (-1), uu, uu, uu, uu, uu, uu]) rfl ?_
  refine Gol.ldc2Double X0 hx hby hZ hown d15_2 5 rfl (w 131 _ rfl) ?_
  refine Gol.dstoreN X0 hx hby d15_5 6 rfl (l' := #[vr (A 0), vi (-1), vd 4472406533629990549, ss, uu, uu, uu, uu]) rfl ?_
  refine Gol.iconst X0 hx hby d15_6 7 rfl (z := (0 : Int32)) rfl ?_
  refine Gol.istore X0 hx hby d15_7 9 rfl (l' := #[vr (A 0), vi (-1), vd 4472406533629990549, ss, vi 0, uu, uu, uu]) rfl ?_
  refine Gol.iload X0 hx hby d15_9 11 rfl rfl ?_
  refine Gol.fB X0 hx hby hZ hown (w 123 _ rfl) eh0 B_A0 25 d15_11 d15_12 15 rfl rfl rfl rfl ?_
  intro T1 X1 e1
  refine Gol.icmpNo X1 hx hby d15_15 18 rfl (tlt (by decide : (0 : Int32) < (2 : Int32))).2.1 ?_
  refine Gol.fB X1 hx hby hZ hown (w 17 _ rfl) e1 B_A0 0 d15_18 d15_19 22 rfl rfl rfl rfl ?_
  intro T2 X2 e2
  refine Gol.iload X2 hx hby d15_22 24 rfl rfl ?_
  refine Gol.iaload X2 hx hby hZ e2 V_A17 d15_24 25 rfl ⟨by decide, by decide⟩ (v := a) rfl ?_
  refine Gol.istore X2 hx hby d15_25 27 rfl (l' := #[vr (A 0), vi (-1), vd 4472406533629990549, ss, vi 0, vi a, uu, uu]) rfl ?_
  refine Gol.fB X2 hx hby hZ hown (w 67 _ rfl) e2 B_A0 14 d15_27 d15_28 31 rfl rfl rfl rfl ?_
  intro T3 X3 e3
  refine Gol.iload X3 hx hby d15_31 33 rfl rfl ?_
  refine Gol.iaload X3 hx hby hZ e3 V_A7 d15_33 34 rfl (own_in6 ha) (v := (sel a x0 x1)) (own_rI ha) ?_
  refine Gol.ifYes X3 hx hby d15_34 58 (by decide) ((if0 _ _).trans (flt hba).2.1) ?_
  refine Gol.iinc X3 hx hby d15_58 61 rfl rfl (l' := #[vr (A 0), vi (-1), vd 4472406533629990549, ss, vi 1, vi a, uu, uu]) rfl ?_
  refine Gol.goto X3 hx hby d15_61 9 (by decide) ?_
  refine Gol.iload X3 hx hby d15_9 11 rfl rfl ?_
  refine Gol.fB X3 hx hby hZ hown (w 123 _ rfl) e3 B_A0 25 d15_11 d15_12 15 rfl rfl rfl rfl ?_
  intro T4 X4 e4
  refine Gol.icmpNo X4 hx hby d15_15 18 rfl (tlt (by decide : (1 : Int32) < (2 : Int32))).2.1 ?_
  refine Gol.fB X4 hx hby hZ hown (w 17 _ rfl) e4 B_A0 0 d15_18 d15_19 22 rfl rfl rfl rfl ?_
  intro T5 X5 e5
  refine Gol.iload X5 hx hby d15_22 24 rfl rfl ?_
  refine Gol.iaload X5 hx hby hZ e5 V_A17 d15_24 25 rfl ⟨by decide, by decide⟩ (v := b) rfl ?_
  refine Gol.istore X5 hx hby d15_25 27 rfl (l' := #[vr (A 0), vi (-1), vd 4472406533629990549, ss, vi 1, vi b, uu, uu]) rfl ?_
  refine Gol.fB X5 hx hby hZ hown (w 67 _ rfl) e5 B_A0 14 d15_27 d15_28 31 rfl rfl rfl rfl ?_
  intro T6 X6 e6
  refine Gol.iload X6 hx hby d15_31 33 rfl rfl ?_
  refine Gol.iaload X6 hx hby hZ e6 V_A7 d15_33 34 rfl (own_in6 hb) (v := (sel b x0 x1)) (own_rI hb) ?_
  refine Gol.ifYes X6 hx hby d15_34 58 (by decide) ((if0 _ _).trans (flt hbb).2.1) ?_
  refine Gol.iinc X6 hx hby d15_58 61 rfl rfl (l' := #[vr (A 0), vi (-1), vd 4472406533629990549, ss, vi 2, vi b, uu, uu]) rfl ?_
  refine Gol.goto X6 hx hby d15_61 9 (by decide) ?_
  refine Gol.iload X6 hx hby d15_9 11 rfl rfl ?_
  refine Gol.fB X6 hx hby hZ hown (w 123 _ rfl) e6 B_A0 25 d15_11 d15_12 15 rfl rfl rfl rfl ?_
  intro T7 X7 e7
  refine Gol.icmpYes X7 hx hby d15_15 64 (by decide) (flt (by decide : ¬ ((2 : Int32) < (2 : Int32)))).2.1 ?_
  refine Gol.iloadN X7 hx hby d15_64 65 rfl rfl ?_
  exact Gol.retI X7 hx hby Bd.returns Bd.notSynchronized d15_65 e7 ⟨rfl, N0, rfl⟩ (by decide) (by decide)
theorem d15_37 : dc15 37 (.aload_n 0) 1 := by decide +kernel
theorem d15_38 : dc15 38 (.iload 5) 2 := by decide +kernel
theorem d15_40 : dc15 40 (.invokevirtual 133) 3 := by decide +kernel
theorem d15_43 : dc15 43 (.dstore 6) 2 := by decide +kernel
theorem d15_45 : dc15 45 (.dload 6) 2 := by decide +kernel
theorem d15_47 : dc15 47 (.dload_n 2) 1 := by decide +kernel
theorem d15_48 : dc15 48 (.dcmp .l) 1 := by decide +kernel
theorem d15_49 : dc15 49 (.ifCond .le 9) 3 := by decide +kernel
theorem d15_52 : dc15 52 (.iload 5) 2 := by decide +kernel
theorem d15_54 : dc15 54 (.istore_n 1) 1 := by decide +kernel
theorem d15_55 : dc15 55 (.dload 6) 2 := by decide +kernel
theorem d15_57 : dc15 57 (.dstore_n 2) 1 := by decide +kernel
theorem ef_Best2b (m : MethodId)  (A : Nat → Addr) : entryFrame m #[(.ref (A 0))] 8 = mkF m 0 #[vr (A 0), uu, uu, uu, uu, uu, uu, uu] [] := by first | (simp [entryFrame, mkF, argsToLocals, Value.category]; done) | rfl
abbrev QBest2b (Z : State) (A : Nat → Addr) (pp nx wk ps : Int32) (un : Int64) (op a b : Int32) (c2 c3 c4 c5 c6 c7 : Value) (x0 x1 y0 y1 nd0 nd1 tk0 tk1 dc0 dc1 : Int32) (m0 m1 : UInt64) (h0 : Heap) (n0 : Nat) (v : Option Value) (h : Heap) (L : List Loc) : Prop := v = some (.int b) ∧ Fr n0 L ∧ h = h0
set_option maxRecDepth 65536 in
set_option maxHeartbeats 40000000 in
theorem rmBest2b (l : Launch) (Z : State) (a0 : Array Value) (hw : TW a0 Z) (ws : List Jvm.Cond) (A : Nat → Addr) (pp nx wk ps : Int32) (un : Int64) (op a b : Int32) (c2 c3 c4 c5 c6 c7 : Value) (x0 x1 y0 y1 nd0 nd1 tk0 tk1 dc0 dc1 : Int32) (m0 m1 : UInt64) (h0 : Heap) (n0 : Nat) (Zs : n0 ≤ h0.size) (D : DisA A) (G : FreA A n0) (B_A0 : FL Z h0 (A 0) (rxv A pp (2 : Int32) nx wk ps un op)) (E_A0 : Exa Z h0 (A 0) "com/example/quorumstone/quorumstone/check/Relaxation") (P17 : Vv Z h0 (A 17) .int (8 : Int32) [(.int a), (.int b), c2, c3, c4, c5, c6, c7] (.int 0)) (P7 : Vv Z h0 (A 7) .int (6 : Int32) [(.int x0), (.int x1), (.int (-1)), (.int (-1)), (.int y0), (.int y1)] (.int 0)) (P2 : Vv Z h0 (A 2) .int (2 : Int32) [(.int nd0), (.int nd1)] (.int 0)) (P3 : Vv Z h0 (A 3) .int (2 : Int32) [(.int tk0), (.int tk1)] (.int 0)) (P5 : Vv Z h0 (A 5) .int (3 : Int32) [(.int 0), (.int 1), (.int 2)] (.int 0)) (P6 : Vv Z h0 (A 6) .int (2 : Int32) [(.int dc0), (.int dc1)] (.int 0)) (P14 : Vv Z h0 (A 14) .double (2 : Int32) [(.double m0), (.double m1)] (.double 0)) (ha : B01 a) (hb : B01 b) (hba : ¬ sel a x0 x1 < 0) (hbb :  sel b x0 x1 < 0) (hdc0 : B01 dc0) (hdc1 : B01 dc1) (hmb : sel (sel b dc0 dc1) m0 m1 = 0) (hpb : 0 < (prf b nd0 nd1 tk0 tk1).toInt) :
    Mt l (⟨"com/example/quorumstone/quorumstone/check/Relaxation", "bestCandidate", "()I"⟩ : MethodName) prog_8_method_14_code 8 (some .int) ws (rmm 3 0 0 44) #[(.ref (A 0))] Z h0 (QBest2b Z A pp nx wk ps un op a b c2 c3 c4 c5 c6 c7 x0 x1 y0 y1 nd0 nd1 tk0 tk1 dc0 dc1 m0 m1 h0 n0) 0 0 := by
  refine own_body n0 (plainFor_of_name pn_15) hw (fun m => ef_Best2b m  A) ?_
  intro p ev s m below meth c s₁ Bd hZ hx hby hml hown X0 eh0 N0 w
  obtain ⟨k_A17, V_A17⟩ := P17
  obtain ⟨k_A7, V_A7⟩ := P7
  obtain ⟨k_A2, V_A2⟩ := P2
  obtain ⟨k_A3, V_A3⟩ := P3
  obtain ⟨k_A5, V_A5⟩ := P5
  obtain ⟨k_A6, V_A6⟩ := P6
  obtain ⟨k_A14, V_A14⟩ := P14
  show GolF _ _ _ _ _ _ _ s₁ m 0 #[vr (A 0), uu, uu, uu, uu, uu, uu, uu] []
  refine Gol.iconst X0 hx hby d15_0 1 rfl (z := (-1 : Int32)) rfl ?_
  refine Gol.istoreN X0 hx hby d15_1 2 rfl (l' := #[vr (A 0), vi (-1), uu, uu, uu, uu, uu, uu]) rfl ?_
  refine Gol.ldc2Double X0 hx hby hZ hown d15_2 5 rfl (w 131 _ rfl) ?_
  refine Gol.dstoreN X0 hx hby d15_5 6 rfl (l' := #[vr (A 0), vi (-1), vd 4472406533629990549, ss, uu, uu, uu, uu]) rfl ?_
  refine Gol.iconst X0 hx hby d15_6 7 rfl (z := (0 : Int32)) rfl ?_
  refine Gol.istore X0 hx hby d15_7 9 rfl (l' := #[vr (A 0), vi (-1), vd 4472406533629990549, ss, vi 0, uu, uu, uu]) rfl ?_
  refine Gol.iload X0 hx hby d15_9 11 rfl rfl ?_
  refine Gol.fB X0 hx hby hZ hown (w 123 _ rfl) eh0 B_A0 25 d15_11 d15_12 15 rfl rfl rfl rfl ?_
  intro T1 X1 e1
  refine Gol.icmpNo X1 hx hby d15_15 18 rfl (tlt (by decide : (0 : Int32) < (2 : Int32))).2.1 ?_
  refine Gol.fB X1 hx hby hZ hown (w 17 _ rfl) e1 B_A0 0 d15_18 d15_19 22 rfl rfl rfl rfl ?_
  intro T2 X2 e2
  refine Gol.iload X2 hx hby d15_22 24 rfl rfl ?_
  refine Gol.iaload X2 hx hby hZ e2 V_A17 d15_24 25 rfl ⟨by decide, by decide⟩ (v := a) rfl ?_
  refine Gol.istore X2 hx hby d15_25 27 rfl (l' := #[vr (A 0), vi (-1), vd 4472406533629990549, ss, vi 0, vi a, uu, uu]) rfl ?_
  refine Gol.fB X2 hx hby hZ hown (w 67 _ rfl) e2 B_A0 14 d15_27 d15_28 31 rfl rfl rfl rfl ?_
  intro T3 X3 e3
  refine Gol.iload X3 hx hby d15_31 33 rfl rfl ?_
  refine Gol.iaload X3 hx hby hZ e3 V_A7 d15_33 34 rfl (own_in6 ha) (v := (sel a x0 x1)) (own_rI ha) ?_
  refine Gol.ifYes X3 hx hby d15_34 58 (by decide) ((if0 _ _).trans (flt hba).2.1) ?_
  refine Gol.iinc X3 hx hby d15_58 61 rfl rfl (l' := #[vr (A 0), vi (-1), vd 4472406533629990549, ss, vi 1, vi a, uu, uu]) rfl ?_
  refine Gol.goto X3 hx hby d15_61 9 (by decide) ?_
  refine Gol.iload X3 hx hby d15_9 11 rfl rfl ?_
  refine Gol.fB X3 hx hby hZ hown (w 123 _ rfl) e3 B_A0 25 d15_11 d15_12 15 rfl rfl rfl rfl ?_
  intro T4 X4 e4
  refine Gol.icmpNo X4 hx hby d15_15 18 rfl (tlt (by decide : (1 : Int32) < (2 : Int32))).2.1 ?_
  refine Gol.fB X4 hx hby hZ hown (w 17 _ rfl) e4 B_A0 0 d15_18 d15_19 22 rfl rfl rfl rfl ?_
  intro T5 X5 e5
  refine Gol.iload X5 hx hby d15_22 24 rfl rfl ?_
  refine Gol.iaload X5 hx hby hZ e5 V_A17 d15_24 25 rfl ⟨by decide, by decide⟩ (v := b) rfl ?_
  refine Gol.istore X5 hx hby d15_25 27 rfl (l' := #[vr (A 0), vi (-1), vd 4472406533629990549, ss, vi 1, vi b, uu, uu]) rfl ?_
  refine Gol.fB X5 hx hby hZ hown (w 67 _ rfl) e5 B_A0 14 d15_27 d15_28 31 rfl rfl rfl rfl ?_
  intro T6 X6 e6
  refine Gol.iload X6 hx hby d15_31 33 rfl rfl ?_
  refine Gol.iaload X6 hx hby hZ e6 V_A7 d15_33 34 rfl (own_in6 hb) (v := (sel b x0 x1)) (own_rI hb) ?_
  refine Gol.ifNo X6 hx hby d15_34 37 rfl ((if0 _ _).trans (tlt hbb).2.1) ?_
  refine Gol.aloadN X6 hx hby d15_37 38 rfl rfl rfl ?_
  refine Gol.iload X6 hx hby d15_38 40 rfl rfl ?_
  refine Gol.callQ X6 hx hby hZ hown (z := zM0) 0 [(.int b)] (a := (A 0)) (w 142 _ rfl) (w 143 _ rfl) (w 101 _ rfl) rfl (w 144 _ rfl) (w 10 _ rfl) (w 145 _ rfl) (by decide) E_A0 (rmRed l Z a0 hw [] b A pp (2 : Int32) nx wk ps un op nd0 nd1 tk0 tk1 dc0 dc1 m0 m1 h0 n0 Zs D G B_A0 E_A0 ⟨_, V_A2⟩ ⟨_, V_A3⟩ ⟨_, V_A5⟩ ⟨_, V_A6⟩ ⟨_, V_A14⟩ hb hdc0 hdc1 hmb) (by decide) (by decide) e6 (by rw [hml]; rfl) (rest := []) (Nat.le_of_eq rfl) (by decide) (by decide) (lenOf pd_3 rfl) rfl d15_40 43 rfl ?_
  intro T7 v7 L7 X7 hQ7
  obtain ⟨rfl, Nq7, eq7⟩ := hQ7
  have N7 := Fr.app N0 Nq7
  show GolF _ _ _ _ _ _ _ T7 m 43 #[vr (A 0), vi (-1), vd 4472406533629990549, ss, vi 1, vi b, uu, uu] [(.double (FP.l2d (prf b nd0 nd1 tk0 tk1)))]
  refine Gol.dstore X7 hx hby d15_43 45 rfl (l' := #[vr (A 0), vi (-1), vd 4472406533629990549, ss, vi 1, vi b, vd (FP.l2d (prf b nd0 nd1 tk0 tk1)), ss]) rfl ?_
  refine Gol.dload X7 hx hby d15_45 47 rfl rfl ?_
  refine Gol.dloadN X7 hx hby d15_47 48 rfl rfl ?_
  refine Gol.dcmp X7 hx hby d15_48 49 rfl (v := (1 : Int32)) (own_cmpT hpb (own_b53 _) _) ?_
  refine Gol.ifNo X7 hx hby d15_49 52 rfl ((if0 _ _).trans (tlt (by decide : (0 : Int32) < (1 : Int32))).2.2.2) ?_
  refine Gol.iload X7 hx hby d15_52 54 rfl rfl ?_
  refine Gol.istoreN X7 hx hby d15_54 55 rfl (l' := #[vr (A 0), vi b, vd 4472406533629990549, ss, vi 1, vi b, vd (FP.l2d (prf b nd0 nd1 tk0 tk1)), ss]) rfl ?_
  refine Gol.dload X7 hx hby d15_55 57 rfl rfl ?_
  refine Gol.dstoreN X7 hx hby d15_57 58 rfl (l' := #[vr (A 0), vi b, vd (FP.l2d (prf b nd0 nd1 tk0 tk1)), ss, vi 1, vi b, vd (FP.l2d (prf b nd0 nd1 tk0 tk1)), ss]) rfl ?_
  refine Gol.iinc X7 hx hby d15_58 61 rfl rfl (l' := #[vr (A 0), vi b, vd (FP.l2d (prf b nd0 nd1 tk0 tk1)), ss, vi 2, vi b, vd (FP.l2d (prf b nd0 nd1 tk0 tk1)), ss]) rfl ?_
  refine Gol.goto X7 hx hby d15_61 9 (by decide) ?_
  refine Gol.iload X7 hx hby d15_9 11 rfl rfl ?_
  refine Gol.fB X7 hx hby hZ hown (w 123 _ rfl) eq7 B_A0 25 d15_11 d15_12 15 rfl rfl rfl rfl ?_
  intro T8 X8 e8
  refine Gol.icmpYes X8 hx hby d15_15 64 (by decide) (flt (by decide : ¬ ((2 : Int32) < (2 : Int32)))).2.1 ?_
  refine Gol.iloadN X8 hx hby d15_64 65 rfl rfl ?_
  exact Gol.retI X8 hx hby Bd.returns Bd.notSynchronized d15_65 e8 ⟨rfl, N7, rfl⟩ (by decide) (by decide)
theorem ef_Best2a (m : MethodId)  (A : Nat → Addr) : entryFrame m #[(.ref (A 0))] 8 = mkF m 0 #[vr (A 0), uu, uu, uu, uu, uu, uu, uu] [] := by first | (simp [entryFrame, mkF, argsToLocals, Value.category]; done) | rfl
abbrev QBest2a (Z : State) (A : Nat → Addr) (pp nx wk ps : Int32) (un : Int64) (op a b : Int32) (c2 c3 c4 c5 c6 c7 : Value) (x0 x1 y0 y1 nd0 nd1 tk0 tk1 dc0 dc1 : Int32) (m0 m1 : UInt64) (h0 : Heap) (n0 : Nat) (v : Option Value) (h : Heap) (L : List Loc) : Prop := v = some (.int a) ∧ Fr n0 L ∧ h = h0
set_option maxRecDepth 65536 in
set_option maxHeartbeats 40000000 in
theorem rmBest2a (l : Launch) (Z : State) (a0 : Array Value) (hw : TW a0 Z) (ws : List Jvm.Cond) (A : Nat → Addr) (pp nx wk ps : Int32) (un : Int64) (op a b : Int32) (c2 c3 c4 c5 c6 c7 : Value) (x0 x1 y0 y1 nd0 nd1 tk0 tk1 dc0 dc1 : Int32) (m0 m1 : UInt64) (h0 : Heap) (n0 : Nat) (Zs : n0 ≤ h0.size) (D : DisA A) (G : FreA A n0) (B_A0 : FL Z h0 (A 0) (rxv A pp (2 : Int32) nx wk ps un op)) (E_A0 : Exa Z h0 (A 0) "com/example/quorumstone/quorumstone/check/Relaxation") (P17 : Vv Z h0 (A 17) .int (8 : Int32) [(.int a), (.int b), c2, c3, c4, c5, c6, c7] (.int 0)) (P7 : Vv Z h0 (A 7) .int (6 : Int32) [(.int x0), (.int x1), (.int (-1)), (.int (-1)), (.int y0), (.int y1)] (.int 0)) (P2 : Vv Z h0 (A 2) .int (2 : Int32) [(.int nd0), (.int nd1)] (.int 0)) (P3 : Vv Z h0 (A 3) .int (2 : Int32) [(.int tk0), (.int tk1)] (.int 0)) (P5 : Vv Z h0 (A 5) .int (3 : Int32) [(.int 0), (.int 1), (.int 2)] (.int 0)) (P6 : Vv Z h0 (A 6) .int (2 : Int32) [(.int dc0), (.int dc1)] (.int 0)) (P14 : Vv Z h0 (A 14) .double (2 : Int32) [(.double m0), (.double m1)] (.double 0)) (ha : B01 a) (hb : B01 b) (hba :  sel a x0 x1 < 0) (hbb : ¬ sel b x0 x1 < 0) (hdc0 : B01 dc0) (hdc1 : B01 dc1) (hma : sel (sel a dc0 dc1) m0 m1 = 0) (hpa : 0 < (prf a nd0 nd1 tk0 tk1).toInt) :
    Mt l (⟨"com/example/quorumstone/quorumstone/check/Relaxation", "bestCandidate", "()I"⟩ : MethodName) prog_8_method_14_code 8 (some .int) ws (rmm 3 0 0 44) #[(.ref (A 0))] Z h0 (QBest2a Z A pp nx wk ps un op a b c2 c3 c4 c5 c6 c7 x0 x1 y0 y1 nd0 nd1 tk0 tk1 dc0 dc1 m0 m1 h0 n0) 0 0 := by
  refine own_body n0 (plainFor_of_name pn_15) hw (fun m => ef_Best2a m  A) ?_
  intro p ev s m below meth c s₁ Bd hZ hx hby hml hown X0 eh0 N0 w
  obtain ⟨k_A17, V_A17⟩ := P17
  obtain ⟨k_A7, V_A7⟩ := P7
  obtain ⟨k_A2, V_A2⟩ := P2
  obtain ⟨k_A3, V_A3⟩ := P3
  obtain ⟨k_A5, V_A5⟩ := P5
  obtain ⟨k_A6, V_A6⟩ := P6
  obtain ⟨k_A14, V_A14⟩ := P14
  show GolF _ _ _ _ _ _ _ s₁ m 0 #[vr (A 0), uu, uu, uu, uu, uu, uu, uu] []
  refine Gol.iconst X0 hx hby d15_0 1 rfl (z := (-1 : Int32)) rfl ?_
  refine Gol.istoreN X0 hx hby d15_1 2 rfl (l' := #[vr (A 0), vi (-1), uu, uu, uu, uu, uu, uu]) rfl ?_
  refine Gol.ldc2Double X0 hx hby hZ hown d15_2 5 rfl (w 131 _ rfl) ?_
  refine Gol.dstoreN X0 hx hby d15_5 6 rfl (l' := #[vr (A 0), vi (-1), vd 4472406533629990549, ss, uu, uu, uu, uu]) rfl ?_
  refine Gol.iconst X0 hx hby d15_6 7 rfl (z := (0 : Int32)) rfl ?_
  refine Gol.istore X0 hx hby d15_7 9 rfl (l' := #[vr (A 0), vi (-1), vd 4472406533629990549, ss, vi 0, uu, uu, uu]) rfl ?_
  refine Gol.iload X0 hx hby d15_9 11 rfl rfl ?_
  refine Gol.fB X0 hx hby hZ hown (w 123 _ rfl) eh0 B_A0 25 d15_11 d15_12 15 rfl rfl rfl rfl ?_
  intro T1 X1 e1
  refine Gol.icmpNo X1 hx hby d15_15 18 rfl (tlt (by decide : (0 : Int32) < (2 : Int32))).2.1 ?_
  refine Gol.fB X1 hx hby hZ hown (w 17 _ rfl) e1 B_A0 0 d15_18 d15_19 22 rfl rfl rfl rfl ?_
  intro T2 X2 e2
  refine Gol.iload X2 hx hby d15_22 24 rfl rfl ?_
  refine Gol.iaload X2 hx hby hZ e2 V_A17 d15_24 25 rfl ⟨by decide, by decide⟩ (v := a) rfl ?_
  refine Gol.istore X2 hx hby d15_25 27 rfl (l' := #[vr (A 0), vi (-1), vd 4472406533629990549, ss, vi 0, vi a, uu, uu]) rfl ?_
  refine Gol.fB X2 hx hby hZ hown (w 67 _ rfl) e2 B_A0 14 d15_27 d15_28 31 rfl rfl rfl rfl ?_
  intro T3 X3 e3
  refine Gol.iload X3 hx hby d15_31 33 rfl rfl ?_
  refine Gol.iaload X3 hx hby hZ e3 V_A7 d15_33 34 rfl (own_in6 ha) (v := (sel a x0 x1)) (own_rI ha) ?_
  refine Gol.ifNo X3 hx hby d15_34 37 rfl ((if0 _ _).trans (tlt hba).2.1) ?_
  refine Gol.aloadN X3 hx hby d15_37 38 rfl rfl rfl ?_
  refine Gol.iload X3 hx hby d15_38 40 rfl rfl ?_
  refine Gol.callQ X3 hx hby hZ hown (z := zM0) 0 [(.int a)] (a := (A 0)) (w 142 _ rfl) (w 143 _ rfl) (w 101 _ rfl) rfl (w 144 _ rfl) (w 10 _ rfl) (w 145 _ rfl) (by decide) E_A0 (rmRed l Z a0 hw [] a A pp (2 : Int32) nx wk ps un op nd0 nd1 tk0 tk1 dc0 dc1 m0 m1 h0 n0 Zs D G B_A0 E_A0 ⟨_, V_A2⟩ ⟨_, V_A3⟩ ⟨_, V_A5⟩ ⟨_, V_A6⟩ ⟨_, V_A14⟩ ha hdc0 hdc1 hma) (by decide) (by decide) e3 (by rw [hml]; rfl) (rest := []) (Nat.le_of_eq rfl) (by decide) (by decide) (lenOf pd_3 rfl) rfl d15_40 43 rfl ?_
  intro T4 v4 L4 X4 hQ4
  obtain ⟨rfl, Nq4, eq4⟩ := hQ4
  have N4 := Fr.app N0 Nq4
  show GolF _ _ _ _ _ _ _ T4 m 43 #[vr (A 0), vi (-1), vd 4472406533629990549, ss, vi 0, vi a, uu, uu] [(.double (FP.l2d (prf a nd0 nd1 tk0 tk1)))]
  refine Gol.dstore X4 hx hby d15_43 45 rfl (l' := #[vr (A 0), vi (-1), vd 4472406533629990549, ss, vi 0, vi a, vd (FP.l2d (prf a nd0 nd1 tk0 tk1)), ss]) rfl ?_
  refine Gol.dload X4 hx hby d15_45 47 rfl rfl ?_
  refine Gol.dloadN X4 hx hby d15_47 48 rfl rfl ?_
  refine Gol.dcmp X4 hx hby d15_48 49 rfl (v := (1 : Int32)) (own_cmpT hpa (own_b53 _) _) ?_
  refine Gol.ifNo X4 hx hby d15_49 52 rfl ((if0 _ _).trans (tlt (by decide : (0 : Int32) < (1 : Int32))).2.2.2) ?_
  refine Gol.iload X4 hx hby d15_52 54 rfl rfl ?_
  refine Gol.istoreN X4 hx hby d15_54 55 rfl (l' := #[vr (A 0), vi a, vd 4472406533629990549, ss, vi 0, vi a, vd (FP.l2d (prf a nd0 nd1 tk0 tk1)), ss]) rfl ?_
  refine Gol.dload X4 hx hby d15_55 57 rfl rfl ?_
  refine Gol.dstoreN X4 hx hby d15_57 58 rfl (l' := #[vr (A 0), vi a, vd (FP.l2d (prf a nd0 nd1 tk0 tk1)), ss, vi 0, vi a, vd (FP.l2d (prf a nd0 nd1 tk0 tk1)), ss]) rfl ?_
  refine Gol.iinc X4 hx hby d15_58 61 rfl rfl (l' := #[vr (A 0), vi a, vd (FP.l2d (prf a nd0 nd1 tk0 tk1)), ss, vi 1, vi a, vd (FP.l2d (prf a nd0 nd1 tk0 tk1)), ss]) rfl ?_
  refine Gol.goto X4 hx hby d15_61 9 (by decide) ?_
  refine Gol.iload X4 hx hby d15_9 11 rfl rfl ?_
  refine Gol.fB X4 hx hby hZ hown (w 123 _ rfl) eq4 B_A0 25 d15_11 d15_12 15 rfl rfl rfl rfl ?_
  intro T5 X5 e5
  refine Gol.icmpNo X5 hx hby d15_15 18 rfl (tlt (by decide : (1 : Int32) < (2 : Int32))).2.1 ?_
  refine Gol.fB X5 hx hby hZ hown (w 17 _ rfl) e5 B_A0 0 d15_18 d15_19 22 rfl rfl rfl rfl ?_
  intro T6 X6 e6
  refine Gol.iload X6 hx hby d15_22 24 rfl rfl ?_
  refine Gol.iaload X6 hx hby hZ e6 V_A17 d15_24 25 rfl ⟨by decide, by decide⟩ (v := b) rfl ?_
  refine Gol.istore X6 hx hby d15_25 27 rfl (l' := #[vr (A 0), vi a, vd (FP.l2d (prf a nd0 nd1 tk0 tk1)), ss, vi 1, vi b, vd (FP.l2d (prf a nd0 nd1 tk0 tk1)), ss]) rfl ?_
  refine Gol.fB X6 hx hby hZ hown (w 67 _ rfl) e6 B_A0 14 d15_27 d15_28 31 rfl rfl rfl rfl ?_
  intro T7 X7 e7
  refine Gol.iload X7 hx hby d15_31 33 rfl rfl ?_
  refine Gol.iaload X7 hx hby hZ e7 V_A7 d15_33 34 rfl (own_in6 hb) (v := (sel b x0 x1)) (own_rI hb) ?_
  refine Gol.ifYes X7 hx hby d15_34 58 (by decide) ((if0 _ _).trans (flt hbb).2.1) ?_
  refine Gol.iinc X7 hx hby d15_58 61 rfl rfl (l' := #[vr (A 0), vi a, vd (FP.l2d (prf a nd0 nd1 tk0 tk1)), ss, vi 2, vi b, vd (FP.l2d (prf a nd0 nd1 tk0 tk1)), ss]) rfl ?_
  refine Gol.goto X7 hx hby d15_61 9 (by decide) ?_
  refine Gol.iload X7 hx hby d15_9 11 rfl rfl ?_
  refine Gol.fB X7 hx hby hZ hown (w 123 _ rfl) e7 B_A0 25 d15_11 d15_12 15 rfl rfl rfl rfl ?_
  intro T8 X8 e8
  refine Gol.icmpYes X8 hx hby d15_15 64 (by decide) (flt (by decide : ¬ ((2 : Int32) < (2 : Int32)))).2.1 ?_
  refine Gol.iloadN X8 hx hby d15_64 65 rfl rfl ?_
  exact Gol.retI X8 hx hby Bd.returns Bd.notSynchronized d15_65 e8 ⟨rfl, N4, rfl⟩ (by decide) (by decide)
abbrev dc17 (i : Nat) (x : Instr) (n : Nat) : Prop := decode prog_8_method_17_code i = .ok (x, n)
theorem d17_0 : dc17 0 (.iconst 1) 1 := by decide +kernel
theorem d17_1 : dc17 1 (.istore 4) 2 := by decide +kernel
theorem d17_3 : dc17 3 (.aload_n 0) 1 := by decide +kernel
theorem d17_4 : dc17 4 (.getfield 116) 3 := by decide +kernel
theorem d17_7 : dc17 7 (.bipush 8) 2 := by decide +kernel
theorem d17_9 : dc17 9 (.if_icmp .ge 65) 3 := by decide +kernel
theorem d17_12 : dc17 12 (.aload_n 0) 1 := by decide +kernel
theorem d17_13 : dc17 13 (.getfield 12) 3 := by decide +kernel
theorem d17_16 : dc17 16 (.aload_n 0) 1 := by decide +kernel
theorem d17_17 : dc17 17 (.getfield 116) 3 := by decide +kernel
theorem d17_20 : dc17 20 (.iload_n 1) 1 := by decide +kernel
theorem d17_21 : dc17 21 .iastore 1 := by decide +kernel
theorem d17_22 : dc17 22 (.aload_n 0) 1 := by decide +kernel
theorem d17_23 : dc17 23 (.getfield 16) 3 := by decide +kernel
theorem d17_26 : dc17 26 (.aload_n 0) 1 := by decide +kernel
theorem d17_27 : dc17 27 (.getfield 116) 3 := by decide +kernel
theorem d17_30 : dc17 30 (.dload_n 2) 1 := by decide +kernel
theorem d17_31 : dc17 31 .dastore 1 := by decide +kernel
theorem d17_32 : dc17 32 (.aload_n 0) 1 := by decide +kernel
theorem d17_33 : dc17 33 (.getfield 116) 3 := by decide +kernel
theorem d17_36 : dc17 36 (.ifCond .eq 17) 3 := by decide +kernel
theorem d17_53 : dc17 53 (.aload_n 0) 1 := by decide +kernel
theorem d17_54 : dc17 54 (.aload_n 0) 1 := by decide +kernel
theorem d17_55 : dc17 55 (.getfield 116) 3 := by decide +kernel
theorem d17_58 : dc17 58 (.putfield 189) 3 := by decide +kernel
theorem d17_61 : dc17 61 (.aload_n 0) 1 := by decide +kernel
theorem d17_62 : dc17 62 .dup 1 := by decide +kernel
theorem d17_63 : dc17 63 (.getfield 116) 3 := by decide +kernel
theorem d17_66 : dc17 66 (.iconst 1) 1 := by decide +kernel
theorem d17_67 : dc17 67 .iadd 1 := by decide +kernel
theorem d17_68 : dc17 68 (.putfield 116) 3 := by decide +kernel
theorem d17_71 : dc17 71 (.goto 85) 3 := by decide +kernel
theorem d17_156 : dc17 156 (.iload 4) 2 := by decide +kernel
theorem d17_158 : dc17 158 .ireturn 1 := by decide +kernel
theorem pn_17 : plainName "com/example/quorumstone/quorumstone/check/Relaxation" = true := by first | (simp [plainName, overriddenIn]; done) | decide +kernel
theorem ef_Off0 (m : MethodId) (p1 : Int32) (u2 : UInt64) (A : Nat → Addr) : entryFrame m #[(.ref (A 0)), (.int p1), (.double u2)] 6 = mkF m 0 #[vr (A 0), vi p1, vd u2, ss, uu, uu] [] := by first | (simp [entryFrame, mkF, argsToLocals, Value.category]; done) | rfl
abbrev QOff0 (Z : State) (p1 : Int32) (u2 : UInt64) (A : Nat → Addr) (pp nx wk ps : Int32) (un : Int64) (op : Int32) (c0 c1 c2 c3 c4 c5 c6 c7 q0 q1 q2 q3 q4 q5 q6 q7 : Value) (h0 : Heap) (n0 : Nat) (v : Option Value) (h : Heap) (L : List Loc) : Prop := v = some (.int 1) ∧ Fr n0 L ∧ Keep h0 h [(A 0), (A 17), (A 18)] ∧ FL Z h (A 0) (rxv A pp (1 : Int32) nx (0 : Int32) ps un op) ∧ Vv Z h (A 17) .int (8 : Int32) [(.int p1), c1, c2, c3, c4, c5, c6, c7] (.int 0) ∧ Vv Z h (A 18) .double (8 : Int32) [(.double u2), q1, q2, q3, q4, q5, q6, q7] (.double 0)
set_option maxRecDepth 65536 in
set_option maxHeartbeats 40000000 in
theorem rmOff0 (l : Launch) (Z : State) (a0 : Array Value) (hw : TW a0 Z) (ws : List Jvm.Cond) (p1 : Int32) (u2 : UInt64) (A : Nat → Addr) (pp nx wk ps : Int32) (un : Int64) (op : Int32) (c0 c1 c2 c3 c4 c5 c6 c7 q0 q1 q2 q3 q4 q5 q6 q7 : Value) (h0 : Heap) (n0 : Nat) (Zs : n0 ≤ h0.size) (D : DisA A) (G : FreA A n0) (B_A0 : FL Z h0 (A 0) (rxv A pp (0 : Int32) nx wk ps un op)) (E_A0 : Exa Z h0 (A 0) "com/example/quorumstone/quorumstone/check/Relaxation") (P17 : Vv Z h0 (A 17) .int (8 : Int32) [c0, c1, c2, c3, c4, c5, c6, c7] (.int 0)) (P18 : Vv Z h0 (A 18) .double (8 : Int32) [q0, q1, q2, q3, q4, q5, q6, q7] (.double 0)) :
    Mt l (⟨"com/example/quorumstone/quorumstone/check/Relaxation", "offer", "(ID)Z"⟩ : MethodName) prog_8_method_17_code 6 (some .boolean) ws (rmm 0 0 0 0) #[(.ref (A 0)), (.int p1), (.double u2)] Z h0 (QOff0 Z p1 u2 A pp nx wk ps un op c0 c1 c2 c3 c4 c5 c6 c7 q0 q1 q2 q3 q4 q5 q6 q7 h0 n0) 0 0 := by
  refine own_body n0 (plainFor_of_name pn_17) hw (fun m => ef_Off0 m p1 u2 A) ?_
  intro p ev s m below meth c s₁ Bd hZ hx hby hml hown X0 eh0 N0 w
  obtain ⟨k_A17, V_A17⟩ := P17
  obtain ⟨k_A18, V_A18⟩ := P18
  have LA := own_LA hw
  have K := Keep.refl h0 [(A 0), (A 17), (A 18)]
  show GolF _ _ _ _ _ _ _ s₁ m 0 #[vr (A 0), vi p1, vd u2, ss, uu, uu] []
  refine Gol.iconst X0 hx hby d17_0 1 rfl (z := (1 : Int32)) rfl ?_
  refine Gol.istore X0 hx hby d17_1 3 rfl (l' := #[vr (A 0), vi p1, vd u2, ss, vi 1, uu]) rfl ?_
  refine Gol.fB X0 hx hby hZ hown (w 123 _ rfl) eh0 B_A0 25 d17_3 d17_4 7 rfl rfl rfl rfl ?_
  intro T1 X1 e1
  refine Gol.bipush X1 hx hby d17_7 9 rfl (z := (8 : Int32)) rfl ?_
  refine Gol.icmpNo X1 hx hby d17_9 12 rfl (tlt (by decide : (0 : Int32) < (8 : Int32))).2.1 ?_
  refine Gol.fB X1 hx hby hZ hown (w 17 _ rfl) e1 B_A0 0 d17_12 d17_13 16 rfl rfl rfl rfl ?_
  intro T2 X2 e2
  refine Gol.fB X2 hx hby hZ hown (w 123 _ rfl) e2 B_A0 25 d17_16 d17_17 20 rfl rfl rfl rfl ?_
  intro T3 X3 e3
  refine Gol.iloadN X3 hx hby d17_20 21 rfl rfl ?_
  refine Gol.iastore X3 hx hby hZ e3 V_A17 d17_21 22 rfl ⟨by decide, by decide⟩ 0 rfl (Nat.le_of_ble_eq_true rfl) ?_
  intro T4 h4 X4 e4 W4 A4
  have V_A17 : Arv Z h4 (A 17) k_A17 .int (8 : Int32) [(.int p1), c1, c2, c3, c4, c5, c6, c7] (.int 0) := A4
  have E_A0 := E_A0.wr W4
  have B_A0 := B_A0.other W4 (D 0 17 rfl)
  have V_A18 := V_A18.other W4 (D 18 17 rfl)
  have K := K.wr W4 (Or.inl (List.mem_of_getElem? (i := 1) rfl))
  have N4 := Fr.snoc X4 N0 (G 17 rfl)
  refine Gol.fB X4 hx hby hZ hown (w 20 _ rfl) e4 B_A0 1 d17_22 d17_23 26 rfl rfl rfl rfl ?_
  intro T5 X5 e5
  refine Gol.fB X5 hx hby hZ hown (w 123 _ rfl) e5 B_A0 25 d17_26 d17_27 30 rfl rfl rfl rfl ?_
  intro T6 X6 e6
  refine Gol.dloadN X6 hx hby d17_30 31 rfl rfl ?_
  refine Gol.dastore X6 hx hby hZ e6 V_A18 d17_31 32 rfl ⟨by decide, by decide⟩ 0 rfl (Nat.le_of_ble_eq_true rfl) ?_
  intro T7 h7 X7 e7 W7 A7
  have V_A18 : Arv Z h7 (A 18) k_A18 .double (8 : Int32) [(.double u2), q1, q2, q3, q4, q5, q6, q7] (.double 0) := A7
  have E_A0 := E_A0.wr W7
  have B_A0 := B_A0.other W7 (D 0 18 rfl)
  have V_A17 := V_A17.other W7 (D 17 18 rfl)
  have K := K.wr W7 (Or.inl (List.mem_of_getElem? (i := 2) rfl))
  have N7 := Fr.snoc X7 N4 (G 18 rfl)
  refine Gol.fB X7 hx hby hZ hown (w 123 _ rfl) e7 B_A0 25 d17_32 d17_33 36 rfl rfl rfl rfl ?_
  intro T8 X8 e8
  refine Gol.ifYes X8 hx hby d17_36 53 (by decide) ((if0 _ _).trans (teq (by decide : (0 : Int32) = (0 : Int32))).1) ?_
  refine Gol.aloadN X8 hx hby d17_53 54 rfl rfl rfl ?_
  refine Gol.fB X8 hx hby hZ hown (w 123 _ rfl) e8 B_A0 25 d17_54 d17_55 58 rfl rfl rfl rfl ?_
  intro T9 X9 e9
  refine Gol.putF X9 hx hby hZ hown (host := "") (Or.inl (w 140 _ rfl)) Via.refl e9 (B_A0 27 _ _ _ rfl rfl) E_A0 (Or.inl (w 141 _ rfl)) (w 9 _ rfl) (ty := .int) (by decide) rfl rfl d17_58 61 rfl ?_
  intro T10 h10 X10 e10 W10
  have E_A0 := E_A0.wr W10
  have V_A17 := V_A17.other W10 (D 17 0 rfl)
  have V_A18 := V_A18.other W10 (D 18 0 rfl)
  have K := K.wr W10 (Or.inl (List.mem_of_getElem? (i := 0) rfl))
  have B_A0 : FL Z h10 (A 0) (rxv A pp (0 : Int32) nx (0 : Int32) ps un op) := B_A0.put LA (i0 := 27) rfl W10
  have N10 := Fr.snoc X10 N7 (G 0 rfl)
  refine Gol.aloadN X10 hx hby d17_61 62 rfl rfl rfl ?_
  refine Gol.dup X10 hx hby d17_62 63 rfl rfl ?_
  refine Gol.getF X10 hx hby hZ hown (host := "") (Or.inl (w 123 _ rfl)) Via.refl e10 (B_A0 25 _ _ _ rfl rfl) d17_63 66 rfl ?_
  intro T11 X11 e11
  refine Gol.iconst X11 hx hby d17_66 67 rfl (z := (1 : Int32)) rfl ?_
  refine Gol.iadd X11 hx hby d17_67 68 rfl (z := (1 : Int32)) rfl ?_
  refine Gol.putF X11 hx hby hZ hown (host := "") (Or.inl (w 123 _ rfl)) Via.refl e11 (B_A0 25 _ _ _ rfl rfl) E_A0 (Or.inl (w 124 _ rfl)) (w 9 _ rfl) (ty := .int) (by decide) rfl rfl d17_68 71 rfl ?_
  intro T12 h12 X12 e12 W12
  have V_A17 := V_A17.other W12 (D 17 0 rfl)
  have V_A18 := V_A18.other W12 (D 18 0 rfl)
  have K := K.wr W12 (Or.inl (List.mem_of_getElem? (i := 0) rfl))
  have B_A0 : FL Z h12 (A 0) (rxv A pp (1 : Int32) nx (0 : Int32) ps un op) := B_A0.put LA (i0 := 25) rfl W12
  have N12 := Fr.snoc X12 N10 (G 0 rfl)
  refine Gol.goto X12 hx hby d17_71 156 (by decide) ?_
  refine Gol.iload X12 hx hby d17_156 158 rfl rfl ?_
  exact Gol.retN X12 hx hby (t := .boolean) Bd.returns (by simp) Bd.notSynchronized d17_158 e12 ⟨rfl, N12, K, B_A0, ⟨_, V_A17⟩, ⟨_, V_A18⟩⟩ (by decide) (by decide)
theorem d17_39 : dc17 39 (.dload_n 2) 1 := by decide +kernel
theorem d17_40 : dc17 40 (.aload_n 0) 1 := by decide +kernel
theorem d17_41 : dc17 41 (.getfield 16) 3 := by decide +kernel
theorem d17_44 : dc17 44 (.aload_n 0) 1 := by decide +kernel
theorem d17_45 : dc17 45 (.getfield 189) 3 := by decide +kernel
theorem d17_48 : dc17 48 .daload 1 := by decide +kernel
theorem d17_49 : dc17 49 (.dcmp .g) 1 := by decide +kernel
theorem d17_50 : dc17 50 (.ifCond .ge 11) 3 := by decide +kernel
theorem ef_Off1 (m : MethodId) (p1 : Int32) (u2 : UInt64) (A : Nat → Addr) : entryFrame m #[(.ref (A 0)), (.int p1), (.double u2)] 6 = mkF m 0 #[vr (A 0), vi p1, vd u2, ss, uu, uu] [] := by first | (simp [entryFrame, mkF, argsToLocals, Value.category]; done) | rfl
abbrev QOff1 (Z : State) (p1 : Int32) (u2 : UInt64) (A : Nat → Addr) (pp nx ps : Int32) (un : Int64) (op : Int32) (c0 c1 c2 c3 c4 c5 c6 c7 : Value) (uw : UInt64) (q1 q2 q3 q4 q5 q6 q7 : Value) (h0 : Heap) (n0 : Nat) (v : Option Value) (h : Heap) (L : List Loc) : Prop := v = some (.int 1) ∧ Fr n0 L ∧ Keep h0 h [(A 0), (A 17), (A 18)] ∧ (∃ wz : Int32, FL Z h (A 0) (rxv A pp (2 : Int32) nx wz ps un op)) ∧ Vv Z h (A 17) .int (8 : Int32) [c0, (.int p1), c2, c3, c4, c5, c6, c7] (.int 0) ∧ Vv Z h (A 18) .double (8 : Int32) [(.double uw), (.double u2), q2, q3, q4, q5, q6, q7] (.double 0)
set_option maxRecDepth 65536 in
set_option maxHeartbeats 40000000 in
theorem rmOff1 (l : Launch) (Z : State) (a0 : Array Value) (hw : TW a0 Z) (ws : List Jvm.Cond) (p1 : Int32) (u2 : UInt64) (A : Nat → Addr) (pp nx ps : Int32) (un : Int64) (op : Int32) (c0 c1 c2 c3 c4 c5 c6 c7 : Value) (uw : UInt64) (q1 q2 q3 q4 q5 q6 q7 : Value) (h0 : Heap) (n0 : Nat) (Zs : n0 ≤ h0.size) (D : DisA A) (G : FreA A n0) (B_A0 : FL Z h0 (A 0) (rxv A pp (1 : Int32) nx (0 : Int32) ps un op)) (E_A0 : Exa Z h0 (A 0) "com/example/quorumstone/quorumstone/check/Relaxation") (P17 : Vv Z h0 (A 17) .int (8 : Int32) [c0, c1, c2, c3, c4, c5, c6, c7] (.int 0)) (P18 : Vv Z h0 (A 18) .double (8 : Int32) [(.double uw), q1, q2, q3, q4, q5, q6, q7] (.double 0)) :
    Mt l (⟨"com/example/quorumstone/quorumstone/check/Relaxation", "offer", "(ID)Z"⟩ : MethodName) prog_8_method_17_code 6 (some .boolean) ws (rmm 0 0 0 0) #[(.ref (A 0)), (.int p1), (.double u2)] Z h0 (QOff1 Z p1 u2 A pp nx ps un op c0 c1 c2 c3 c4 c5 c6 c7 uw q1 q2 q3 q4 q5 q6 q7 h0 n0) 0 0 := by
  refine own_body n0 (plainFor_of_name pn_17) hw (fun m => ef_Off1 m p1 u2 A) ?_
  intro p ev s m below meth c s₁ Bd hZ hx hby hml hown X0 eh0 N0 w
  obtain ⟨k_A17, V_A17⟩ := P17
  obtain ⟨k_A18, V_A18⟩ := P18
  have LA := own_LA hw
  have K := Keep.refl h0 [(A 0), (A 17), (A 18)]
  show GolF _ _ _ _ _ _ _ s₁ m 0 #[vr (A 0), vi p1, vd u2, ss, uu, uu] []
  refine Gol.iconst X0 hx hby d17_0 1 rfl (z := (1 : Int32)) rfl ?_
  refine Gol.istore X0 hx hby d17_1 3 rfl (l' := #[vr (A 0), vi p1, vd u2, ss, vi 1, uu]) rfl ?_
  refine Gol.fB X0 hx hby hZ hown (w 123 _ rfl) eh0 B_A0 25 d17_3 d17_4 7 rfl rfl rfl rfl ?_
  intro T1 X1 e1
  refine Gol.bipush X1 hx hby d17_7 9 rfl (z := (8 : Int32)) rfl ?_
  refine Gol.icmpNo X1 hx hby d17_9 12 rfl (tlt (by decide : (1 : Int32) < (8 : Int32))).2.1 ?_
  refine Gol.fB X1 hx hby hZ hown (w 17 _ rfl) e1 B_A0 0 d17_12 d17_13 16 rfl rfl rfl rfl ?_
  intro T2 X2 e2
  refine Gol.fB X2 hx hby hZ hown (w 123 _ rfl) e2 B_A0 25 d17_16 d17_17 20 rfl rfl rfl rfl ?_
  intro T3 X3 e3
  refine Gol.iloadN X3 hx hby d17_20 21 rfl rfl ?_
  refine Gol.iastore X3 hx hby hZ e3 V_A17 d17_21 22 rfl ⟨by decide, by decide⟩ 1 rfl (Nat.le_of_ble_eq_true rfl) ?_
  intro T4 h4 X4 e4 W4 A4
  have V_A17 : Arv Z h4 (A 17) k_A17 .int (8 : Int32) [c0, (.int p1), c2, c3, c4, c5, c6, c7] (.int 0) := A4
  have E_A0 := E_A0.wr W4
  have B_A0 := B_A0.other W4 (D 0 17 rfl)
  have V_A18 := V_A18.other W4 (D 18 17 rfl)
  have K := K.wr W4 (Or.inl (List.mem_of_getElem? (i := 1) rfl))
  have N4 := Fr.snoc X4 N0 (G 17 rfl)
  refine Gol.fB X4 hx hby hZ hown (w 20 _ rfl) e4 B_A0 1 d17_22 d17_23 26 rfl rfl rfl rfl ?_
  intro T5 X5 e5
  refine Gol.fB X5 hx hby hZ hown (w 123 _ rfl) e5 B_A0 25 d17_26 d17_27 30 rfl rfl rfl rfl ?_
  intro T6 X6 e6
  refine Gol.dloadN X6 hx hby d17_30 31 rfl rfl ?_
  refine Gol.dastore X6 hx hby hZ e6 V_A18 d17_31 32 rfl ⟨by decide, by decide⟩ 1 rfl (Nat.le_of_ble_eq_true rfl) ?_
  intro T7 h7 X7 e7 W7 A7
  have V_A18 : Arv Z h7 (A 18) k_A18 .double (8 : Int32) [(.double uw), (.double u2), q2, q3, q4, q5, q6, q7] (.double 0) := A7
  have E_A0 := E_A0.wr W7
  have B_A0 := B_A0.other W7 (D 0 18 rfl)
  have V_A17 := V_A17.other W7 (D 17 18 rfl)
  have K := K.wr W7 (Or.inl (List.mem_of_getElem? (i := 2) rfl))
  have N7 := Fr.snoc X7 N4 (G 18 rfl)
  refine Gol.fB X7 hx hby hZ hown (w 123 _ rfl) e7 B_A0 25 d17_32 d17_33 36 rfl rfl rfl rfl ?_
  intro T8 X8 e8
  refine Gol.ifNo X8 hx hby d17_36 39 rfl ((if0 _ _).trans (feq (by decide : ¬ ((1 : Int32) = (0 : Int32)))).1) ?_
  refine Gol.dloadN X8 hx hby d17_39 40 rfl rfl ?_
  refine Gol.fB X8 hx hby hZ hown (w 20 _ rfl) e8 B_A0 1 d17_40 d17_41 44 rfl rfl rfl rfl ?_
  intro T9 X9 e9
  refine Gol.fB X9 hx hby hZ hown (w 140 _ rfl) e9 B_A0 27 d17_44 d17_45 48 rfl rfl rfl rfl ?_
  intro T10 X10 e10
  refine Gol.daload X10 hx hby hZ e10 V_A18 d17_48 49 rfl ⟨by decide, by decide⟩ (v := uw) rfl ?_
  refine Gol.dcmp X10 hx hby d17_49 50 rfl (v := (cmpValue (FP.dcmp u2 uw) .g)) rfl ?_
  by_cases hc50_11 : (cmpValue (FP.dcmp u2 uw) .g) < (0 : Int32)
  · skip
    refine Gol.ifNo X10 hx hby d17_50 53 rfl ((if0 _ _).trans (tlt hc50_11).2.1) ?_
    refine Gol.aloadN X10 hx hby d17_53 54 rfl rfl rfl ?_
    refine Gol.fB X10 hx hby hZ hown (w 123 _ rfl) e10 B_A0 25 d17_54 d17_55 58 rfl rfl rfl rfl ?_
    intro T12 X12 e12
    refine Gol.putF X12 hx hby hZ hown (host := "") (Or.inl (w 140 _ rfl)) Via.refl e12 (B_A0 27 _ _ _ rfl rfl) E_A0 (Or.inl (w 141 _ rfl)) (w 9 _ rfl) (ty := .int) (by decide) rfl rfl d17_58 61 rfl ?_
    intro T13 h13 X13 e13 W13
    have E_A0 := E_A0.wr W13
    have V_A17 := V_A17.other W13 (D 17 0 rfl)
    have V_A18 := V_A18.other W13 (D 18 0 rfl)
    have K := K.wr W13 (Or.inl (List.mem_of_getElem? (i := 0) rfl))
    have B_A0 : FL Z h13 (A 0) (rxv A pp (1 : Int32) nx (1 : Int32) ps un op) := B_A0.put LA (i0 := 27) rfl W13
    have N13 := Fr.snoc X13 N7 (G 0 rfl)
    refine Gol.aloadN X13 hx hby d17_61 62 rfl rfl rfl ?_
    refine Gol.dup X13 hx hby d17_62 63 rfl rfl ?_
    refine Gol.getF X13 hx hby hZ hown (host := "") (Or.inl (w 123 _ rfl)) Via.refl e13 (B_A0 25 _ _ _ rfl rfl) d17_63 66 rfl ?_
    intro T14 X14 e14
    refine Gol.iconst X14 hx hby d17_66 67 rfl (z := (1 : Int32)) rfl ?_
    refine Gol.iadd X14 hx hby d17_67 68 rfl (z := (2 : Int32)) rfl ?_
    refine Gol.putF X14 hx hby hZ hown (host := "") (Or.inl (w 123 _ rfl)) Via.refl e14 (B_A0 25 _ _ _ rfl rfl) E_A0 (Or.inl (w 124 _ rfl)) (w 9 _ rfl) (ty := .int) (by decide) rfl rfl d17_68 71 rfl ?_
    intro T15 h15 X15 e15 W15
    have V_A17 := V_A17.other W15 (D 17 0 rfl)
    have V_A18 := V_A18.other W15 (D 18 0 rfl)
    have K := K.wr W15 (Or.inl (List.mem_of_getElem? (i := 0) rfl))
    have B_A0 : FL Z h15 (A 0) (rxv A pp (2 : Int32) nx (1 : Int32) ps un op) := B_A0.put LA (i0 := 25) rfl W15
    have N15 := Fr.snoc X15 N13 (G 0 rfl)
    refine Gol.goto X15 hx hby d17_71 156 (by decide) ?_
    refine Gol.iload X15 hx hby d17_156 158 rfl rfl ?_
    exact Gol.retN X15 hx hby (t := .boolean) Bd.returns (by simp) Bd.notSynchronized d17_158 e15 ⟨rfl, N15, K, ⟨_, B_A0⟩, ⟨_, V_A17⟩, ⟨_, V_A18⟩⟩ (by decide) (by decide)
  · skip
    refine Gol.ifYes X10 hx hby d17_50 61 (by decide) ((if0 _ _).trans (flt hc50_11).2.1) ?_
    refine Gol.aloadN X10 hx hby d17_61 62 rfl rfl rfl ?_
    refine Gol.dup X10 hx hby d17_62 63 rfl rfl ?_
    refine Gol.getF X10 hx hby hZ hown (host := "") (Or.inl (w 123 _ rfl)) Via.refl e10 (B_A0 25 _ _ _ rfl rfl) d17_63 66 rfl ?_
    intro T16 X16 e16
    refine Gol.iconst X16 hx hby d17_66 67 rfl (z := (1 : Int32)) rfl ?_
    refine Gol.iadd X16 hx hby d17_67 68 rfl (z := (2 : Int32)) rfl ?_
    refine Gol.putF X16 hx hby hZ hown (host := "") (Or.inl (w 123 _ rfl)) Via.refl e16 (B_A0 25 _ _ _ rfl rfl) E_A0 (Or.inl (w 124 _ rfl)) (w 9 _ rfl) (ty := .int) (by decide) rfl rfl d17_68 71 rfl ?_
    intro T17 h17 X17 e17 W17
    have V_A17 := V_A17.other W17 (D 17 0 rfl)
    have V_A18 := V_A18.other W17 (D 18 0 rfl)
    have K := K.wr W17 (Or.inl (List.mem_of_getElem? (i := 0) rfl))
    have B_A0 : FL Z h17 (A 0) (rxv A pp (2 : Int32) nx (0 : Int32) ps un op) := B_A0.put LA (i0 := 25) rfl W17
    have N17 := Fr.snoc X17 N7 (G 0 rfl)
    refine Gol.goto X17 hx hby d17_71 156 (by decide) ?_
    refine Gol.iload X17 hx hby d17_156 158 rfl rfl ?_
    exact Gol.retN X17 hx hby (t := .boolean) Bd.returns (by simp) Bd.notSynchronized d17_158 e17 ⟨rfl, N17, K, ⟨_, B_A0⟩, ⟨_, V_A17⟩, ⟨_, V_A18⟩⟩ (by decide) (by decide)
abbrev dc16 (i : Nat) (x : Instr) (n : Nat) : Prop := decode prog_8_method_15_code i = .ok (x, n)
theorem d16_11 : dc16 11 (.iconst 0) 1 := by decide +kernel
theorem d16_12 : dc16 12 (.istore 5) 2 := by decide +kernel
theorem d16_14 : dc16 14 (.iload 5) 2 := by decide +kernel
theorem d16_16 : dc16 16 (.aload_n 0) 1 := by decide +kernel
theorem d16_17 : dc16 17 (.getfield 39) 3 := by decide +kernel
theorem d16_20 : dc16 20 (.if_icmp .ge 152) 3 := by decide +kernel
theorem d16_23 : dc16 23 (.aload_n 0) 1 := by decide +kernel
theorem d16_24 : dc16 24 (.getfield 54) 3 := by decide +kernel
theorem d16_27 : dc16 27 (.iload 5) 2 := by decide +kernel
theorem d16_29 : dc16 29 .iadd 1 := by decide +kernel
theorem d16_30 : dc16 30 (.istore 6) 2 := by decide +kernel
theorem d16_32 : dc16 32 (.aload_n 0) 1 := by decide +kernel
theorem d16_33 : dc16 33 (.getfield 54) 3 := by decide +kernel
theorem d16_36 : dc16 36 (.aload_n 0) 1 := by decide +kernel
theorem d16_37 : dc16 37 (.getfield 39) 3 := by decide +kernel
theorem d16_40 : dc16 40 .iadd 1 := by decide +kernel
theorem d16_41 : dc16 41 (.iload 5) 2 := by decide +kernel
theorem d16_43 : dc16 43 .iadd 1 := by decide +kernel
theorem d16_44 : dc16 44 (.istore 7) 2 := by decide +kernel
theorem d16_46 : dc16 46 (.aload_n 0) 1 := by decide +kernel
theorem d16_47 : dc16 47 (.getfield 72) 3 := by decide +kernel
theorem d16_50 : dc16 50 (.iload 6) 2 := by decide +kernel
theorem d16_52 : dc16 52 .iaload 1 := by decide +kernel
theorem d16_53 : dc16 53 (.ifCond .ge 20) 3 := by decide +kernel
theorem d16_56 : dc16 56 (.aload_n 0) 1 := by decide +kernel
theorem d16_57 : dc16 57 (.iload 6) 2 := by decide +kernel
theorem d16_59 : dc16 59 (.invokevirtual 179) 3 := by decide +kernel
theorem d16_62 : dc16 62 (.aload_n 0) 1 := by decide +kernel
theorem d16_63 : dc16 63 (.getfield 87) 3 := by decide +kernel
theorem d16_66 : dc16 66 (.iload 5) 2 := by decide +kernel
theorem d16_68 : dc16 68 .daload 1 := by decide +kernel
theorem d16_69 : dc16 69 .dadd 1 := by decide +kernel
theorem d16_70 : dc16 70 (.goto 4) 3 := by decide +kernel
theorem d16_74 : dc16 74 (.dstore 8) 2 := by decide +kernel
theorem d16_76 : dc16 76 (.aload_n 0) 1 := by decide +kernel
theorem d16_77 : dc16 77 (.getfield 72) 3 := by decide +kernel
theorem d16_80 : dc16 80 (.iload 7) 2 := by decide +kernel
theorem d16_82 : dc16 82 .iaload 1 := by decide +kernel
theorem d16_83 : dc16 83 (.ifCond .ge 14) 3 := by decide +kernel
theorem d16_86 : dc16 86 (.aload_n 0) 1 := by decide +kernel
theorem d16_87 : dc16 87 (.getfield 87) 3 := by decide +kernel
theorem d16_90 : dc16 90 (.iload 5) 2 := by decide +kernel
theorem d16_92 : dc16 92 .daload 1 := by decide +kernel
theorem d16_93 : dc16 93 .dneg 1 := by decide +kernel
theorem d16_94 : dc16 94 (.goto 4) 3 := by decide +kernel
theorem d16_97 : dc16 97 (.dconst 0) 1 := by decide +kernel
theorem d16_98 : dc16 98 (.dstore 10) 2 := by decide +kernel
theorem d16_100 : dc16 100 (.dload 8) 2 := by decide +kernel
theorem d16_102 : dc16 102 (.ldc2_w 147) 3 := by decide +kernel
theorem d16_105 : dc16 105 (.dcmp .l) 1 := by decide +kernel
theorem d16_106 : dc16 106 (.ifCond .le 27) 3 := by decide +kernel
theorem d16_133 : dc16 133 (.dload 10) 2 := by decide +kernel
theorem d16_135 : dc16 135 (.ldc2_w 147) 3 := by decide +kernel
theorem d16_138 : dc16 138 (.dcmp .l) 1 := by decide +kernel
theorem d16_139 : dc16 139 (.ifCond .le 27) 3 := by decide +kernel
theorem d16_166 : dc16 166 (.iinc 5 1) 3 := by decide +kernel
theorem d16_169 : dc16 169 (.goto (-155)) 3 := by decide +kernel
set_option maxRecDepth 65536 in
set_option maxHeartbeats 40000000 in
theorem own_rows (l : Launch) (Z : State) (a0 : Array Value) (hw : TW a0 Z) (A : Nat → Addr) (pp nx wk ps op s0 s1 x0 x1 y0 y1 sc : Int32) (M0 M1 : Int64) (h : Heap) (n0 : Nat) (Zs : n0 ≤ h.size) (B_A0 : FL Z h (A 0) (rxv A pp (0 : Int32) nx wk ps (3 : Int64) op)) (E_A0 : Exa Z h (A 0) "com/example/quorumstone/quorumstone/check/Relaxation") (P1 : Vv Z h (A 1) .int (2 : Int32) [(.int s0), (.int s1)] (.int 0)) (P7 : Vv Z h (A 7) .int (6 : Int32) [(.int x0), (.int x1), (.int (-1)), (.int (-1)), (.int y0), (.int y1)] (.int 0)) (P14 : Vv Z h (A 14) .double (2 : Int32) [(.double (FP.l2d M0)), (.double (FP.l2d M1))] (.double 0)) (hM0 : 0 ≤ M0.toInt ∧ M0.toInt ≤ s0.toInt) (hM1 : 0 ≤ M1.toInt ∧ M1.toInt ≤ s1.toInt) {p : Program} {ev : Env} {s : State} {m : MethodId} {args : Array Value} {below : List Frame} {meth : Method} {c : Code} {T : State} {locs : List Loc} {Fe : Outcome → State → List Loc → Nat → Nat → Prop} {Qf : Option Value → Heap → List Loc → Prop} {kc ks : Nat} (X : Stand p l ev (rmm 2 0 0 60) s m args below meth c T locs 0 0) (hx : p.tables.exec = Jvm.exec) (hby : c.code = prog_8_method_15_code) (hZ : Z.Warmed39 s.vm) (hown : s.vm.findClass "com/example/quorumstone/quorumstone/check/Relaxation" = some m.cls) (hml : c.maxLocals = 12) (eT : T.heap = h) (N : Fr n0 locs)
    (k : ∀ (T' : State) (lo : List Loc) (zp zs : UInt64), Stand p l ev (rmm 2 0 0 60) s m args below meth c T' lo 0 0 → Fr n0 lo → T'.heap = h → GolF p ev below Fe Qf kc ks T' m 172 #[vr (A 0), vi sc, vi (-1), vd 4472406533629990549, ss, vi 2, vi 3, vi 5, vd zp, ss, vd zs, ss] []) : GolF p ev below Fe Qf kc ks T m 11 #[vr (A 0), vi sc, vi (-1), vd 4472406533629990549, ss, uu, uu, uu, uu, uu, uu, uu] [] := by
  obtain ⟨k_A1, V_A1⟩ := P1
  obtain ⟨k_A7, V_A7⟩ := P7
  obtain ⟨k_A14, V_A14⟩ := P14
  have w := fun (i : Nat) (d : Jvm.Cond) (q : tables_1[i]? = some d) => hw d (List.mem_of_getElem? q)
  show GolF _ _ _ _ _ _ _ T m 11 #[vr (A 0), vi sc, vi (-1), vd 4472406533629990549, ss, uu, uu, uu, uu, uu, uu, uu] []
  refine Gol.iconst X hx hby d16_11 12 rfl (z := (0 : Int32)) rfl ?_
  refine Gol.istore X hx hby d16_12 14 rfl (l' := #[vr (A 0), vi sc, vi (-1), vd 4472406533629990549, ss, vi 0, uu, uu, uu, uu, uu, uu]) rfl ?_
  refine Gol.iload X hx hby d16_14 16 rfl rfl ?_
  refine Gol.fB X hx hby hZ hown (w 36 _ rfl) eT B_A0 6 d16_16 d16_17 20 rfl rfl rfl rfl ?_
  intro T1 X1 e1
  refine Gol.icmpNo X1 hx hby d16_20 23 rfl (tlt (by decide : (0 : Int32) < (2 : Int32))).2.1 ?_
  refine Gol.fB X1 hx hby hZ hown (w 46 _ rfl) e1 B_A0 11 d16_23 d16_24 27 rfl rfl rfl rfl ?_
  intro T2 X2 e2
  refine Gol.iload X2 hx hby d16_27 29 rfl rfl ?_
  refine Gol.iadd X2 hx hby d16_29 30 rfl (z := (2 : Int32)) rfl ?_
  refine Gol.istore X2 hx hby d16_30 32 rfl (l' := #[vr (A 0), vi sc, vi (-1), vd 4472406533629990549, ss, vi 0, vi 2, uu, uu, uu, uu, uu]) rfl ?_
  refine Gol.fB X2 hx hby hZ hown (w 46 _ rfl) e2 B_A0 11 d16_32 d16_33 36 rfl rfl rfl rfl ?_
  intro T3 X3 e3
  refine Gol.fB X3 hx hby hZ hown (w 36 _ rfl) e3 B_A0 6 d16_36 d16_37 40 rfl rfl rfl rfl ?_
  intro T4 X4 e4
  refine Gol.iadd X4 hx hby d16_40 41 rfl (z := (4 : Int32)) rfl ?_
  refine Gol.iload X4 hx hby d16_41 43 rfl rfl ?_
  refine Gol.iadd X4 hx hby d16_43 44 rfl (z := (4 : Int32)) rfl ?_
  refine Gol.istore X4 hx hby d16_44 46 rfl (l' := #[vr (A 0), vi sc, vi (-1), vd 4472406533629990549, ss, vi 0, vi 2, vi 4, uu, uu, uu, uu]) rfl ?_
  refine Gol.fB X4 hx hby hZ hown (w 67 _ rfl) e4 B_A0 14 d16_46 d16_47 50 rfl rfl rfl rfl ?_
  intro T5 X5 e5
  refine Gol.iload X5 hx hby d16_50 52 rfl rfl ?_
  refine Gol.iaload X5 hx hby hZ e5 V_A7 d16_52 53 rfl ⟨by decide, by decide⟩ (v := (-1 : Int32)) rfl ?_
  refine Gol.ifNo X5 hx hby d16_53 56 rfl ((if0 _ _).trans (tlt (by decide : (-1 : Int32) < (0 : Int32))).2.1) ?_
  refine Gol.aloadN X5 hx hby d16_56 57 rfl rfl rfl ?_
  refine Gol.iload X5 hx hby d16_57 59 rfl rfl ?_
  refine Gol.callQ X5 hx hby hZ hown (z := zM0) 0 [(.int 2)] (a := (A 0)) (w 112 _ rfl) (w 113 _ rfl) (w 101 _ rfl) rfl (w 114 _ rfl) (w 10 _ rfl) (w 115 _ rfl) (by decide) E_A0 (rmPro2 l Z a0 hw []  A pp (0 : Int32) nx wk ps op s0 s1 h n0 Zs B_A0 ⟨_, V_A1⟩) (by decide) (by decide) e5 (by rw [hml]; rfl) (rest := []) (Nat.le_of_eq rfl) (by decide) (by decide) (lenOf pd_3 rfl) rfl d16_59 62 rfl ?_
  intro T6 v6 L6 X6 hQ6
  obtain ⟨rfl, Nq6, eq6⟩ := hQ6
  have N6 := Fr.app N Nq6
  show GolF _ _ _ _ _ _ _ T6 m 62 #[vr (A 0), vi sc, vi (-1), vd 4472406533629990549, ss, vi 0, vi 2, vi 4, uu, uu, uu, uu] [(.double (FP.l2d ((-s0)).toInt64))]
  refine Gol.fB X6 hx hby hZ hown (w 77 _ rfl) eq6 B_A0 19 d16_62 d16_63 66 rfl rfl rfl rfl ?_
  intro T7 X7 e7
  refine Gol.iload X7 hx hby d16_66 68 rfl rfl ?_
  refine Gol.daload X7 hx hby hZ e7 V_A14 d16_68 69 rfl ⟨by decide, by decide⟩ (v := (FP.l2d M0)) rfl ?_
  refine Gol.dadd X7 hx hby d16_69 70 rfl (v := (FP.l2d ((-s0).toInt64 + M0))) own_fin (own_zT hM0.1 hM0.2 .l).1 ?_
  refine Gol.goto X7 hx hby d16_70 74 (by decide) ?_
  refine Gol.dstore X7 hx hby d16_74 76 rfl (l' := #[vr (A 0), vi sc, vi (-1), vd 4472406533629990549, ss, vi 0, vi 2, vi 4, vd (FP.l2d ((-s0).toInt64 + M0)), ss, uu, uu]) rfl ?_
  refine Gol.fB X7 hx hby hZ hown (w 67 _ rfl) e7 B_A0 14 d16_76 d16_77 80 rfl rfl rfl rfl ?_
  intro T8 X8 e8
  refine Gol.iload X8 hx hby d16_80 82 rfl rfl ?_
  refine Gol.iaload X8 hx hby hZ e8 V_A7 d16_82 83 rfl ⟨by decide, by decide⟩ (v := y0) rfl ?_
  refine Gol.merge X8 e8 (fun z : UInt64 => cmpValue (FP.dcmp z 4472406533629990549) .l = -1) (fun T' z => T'.setTop (mkF m 98 #[vr (A 0), vi sc, vi (-1), vd 4472406533629990549, ss, vi 0, vi 2, vi 4, vd (FP.l2d ((-s0).toInt64 + M0)), ss, uu, uu] [.double z])) ?_ ?_
  · intro k
    show GolF _ _ _ _ _ _ _ T8 m 83 #[vr (A 0), vi sc, vi (-1), vd 4472406533629990549, ss, vi 0, vi 2, vi 4, vd (FP.l2d ((-s0).toInt64 + M0)), ss, uu, uu] [(.int y0)]
    by_cases hc83_10 : y0 < (0 : Int32)
    · skip
      refine Gol.ifNo X8 hx hby d16_83 86 rfl ((if0 _ _).trans (tlt hc83_10).2.1) ?_
      refine Gol.fB X8 hx hby hZ hown (w 77 _ rfl) e8 B_A0 19 d16_86 d16_87 90 rfl rfl rfl rfl ?_
      intro T11 X11 e11
      refine Gol.iload X11 hx hby d16_90 92 rfl rfl ?_
      refine Gol.daload X11 hx hby hZ e11 V_A14 d16_92 93 rfl ⟨by decide, by decide⟩ (v := (FP.l2d M0)) rfl ?_
      refine Gol.dneg X11 hx hby d16_93 94 rfl (v := (FP.dneg (FP.l2d M0))) rfl ?_
      refine Gol.goto X11 hx hby d16_94 98 (by decide) ?_
      exact k _ _ X11 e11 (own_ngT hM0.1 (own_mb hM0) _)
    · skip
      refine Gol.ifYes X8 hx hby d16_83 97 (by decide) ((if0 _ _).trans (flt hc83_10).2.1) ?_
      refine Gol.dconst0 X8 hx hby d16_97 98 rfl (v := (0 : UInt64)) (by decide +kernel) ?_
      exact k _ _ X8 e8 (by decide +kernel)
  intro T9 z9 X9 e9 hz9
  show GolF _ _ _ _ _ _ _ T9 m 98 #[vr (A 0), vi sc, vi (-1), vd 4472406533629990549, ss, vi 0, vi 2, vi 4, vd (FP.l2d ((-s0).toInt64 + M0)), ss, uu, uu] [(.double z9)]
  refine Gol.dstore X9 hx hby d16_98 100 rfl (l' := #[vr (A 0), vi sc, vi (-1), vd 4472406533629990549, ss, vi 0, vi 2, vi 4, vd (FP.l2d ((-s0).toInt64 + M0)), ss, vd z9, ss]) rfl ?_
  refine Gol.dload X9 hx hby d16_100 102 rfl rfl ?_
  refine Gol.ldc2Double X9 hx hby hZ hown d16_102 105 rfl (w 131 _ rfl) ?_
  refine Gol.dcmp X9 hx hby d16_105 106 rfl (v := (-1 : Int32)) (own_zT hM0.1 hM0.2 .l).2 ?_
  refine Gol.ifYes X9 hx hby d16_106 133 (by decide) ((if0 _ _).trans (flt (by decide : ¬ ((0 : Int32) < (-1 : Int32)))).2.2.2) ?_
  refine Gol.dload X9 hx hby d16_133 135 rfl rfl ?_
  refine Gol.ldc2Double X9 hx hby hZ hown d16_135 138 rfl (w 131 _ rfl) ?_
  refine Gol.dcmp X9 hx hby d16_138 139 rfl (v := (-1 : Int32)) hz9 ?_
  refine Gol.ifYes X9 hx hby d16_139 166 (by decide) ((if0 _ _).trans (flt (by decide : ¬ ((0 : Int32) < (-1 : Int32)))).2.2.2) ?_
  refine Gol.iinc X9 hx hby d16_166 169 rfl rfl (l' := #[vr (A 0), vi sc, vi (-1), vd 4472406533629990549, ss, vi 1, vi 2, vi 4, vd (FP.l2d ((-s0).toInt64 + M0)), ss, vd z9, ss]) rfl ?_
  refine Gol.goto X9 hx hby d16_169 14 (by decide) ?_
  refine Gol.iload X9 hx hby d16_14 16 rfl rfl ?_
  refine Gol.fB X9 hx hby hZ hown (w 36 _ rfl) e9 B_A0 6 d16_16 d16_17 20 rfl rfl rfl rfl ?_
  intro T12 X12 e12
  refine Gol.icmpNo X12 hx hby d16_20 23 rfl (tlt (by decide : (1 : Int32) < (2 : Int32))).2.1 ?_
  refine Gol.fB X12 hx hby hZ hown (w 46 _ rfl) e12 B_A0 11 d16_23 d16_24 27 rfl rfl rfl rfl ?_
  intro T13 X13 e13
  refine Gol.iload X13 hx hby d16_27 29 rfl rfl ?_
  refine Gol.iadd X13 hx hby d16_29 30 rfl (z := (3 : Int32)) rfl ?_
  refine Gol.istore X13 hx hby d16_30 32 rfl (l' := #[vr (A 0), vi sc, vi (-1), vd 4472406533629990549, ss, vi 1, vi 3, vi 4, vd (FP.l2d ((-s0).toInt64 + M0)), ss, vd z9, ss]) rfl ?_
  refine Gol.fB X13 hx hby hZ hown (w 46 _ rfl) e13 B_A0 11 d16_32 d16_33 36 rfl rfl rfl rfl ?_
  intro T14 X14 e14
  refine Gol.fB X14 hx hby hZ hown (w 36 _ rfl) e14 B_A0 6 d16_36 d16_37 40 rfl rfl rfl rfl ?_
  intro T15 X15 e15
  refine Gol.iadd X15 hx hby d16_40 41 rfl (z := (4 : Int32)) rfl ?_
  refine Gol.iload X15 hx hby d16_41 43 rfl rfl ?_
  refine Gol.iadd X15 hx hby d16_43 44 rfl (z := (5 : Int32)) rfl ?_
  refine Gol.istore X15 hx hby d16_44 46 rfl (l' := #[vr (A 0), vi sc, vi (-1), vd 4472406533629990549, ss, vi 1, vi 3, vi 5, vd (FP.l2d ((-s0).toInt64 + M0)), ss, vd z9, ss]) rfl ?_
  refine Gol.fB X15 hx hby hZ hown (w 67 _ rfl) e15 B_A0 14 d16_46 d16_47 50 rfl rfl rfl rfl ?_
  intro T16 X16 e16
  refine Gol.iload X16 hx hby d16_50 52 rfl rfl ?_
  refine Gol.iaload X16 hx hby hZ e16 V_A7 d16_52 53 rfl ⟨by decide, by decide⟩ (v := (-1 : Int32)) rfl ?_
  refine Gol.ifNo X16 hx hby d16_53 56 rfl ((if0 _ _).trans (tlt (by decide : (-1 : Int32) < (0 : Int32))).2.1) ?_
  refine Gol.aloadN X16 hx hby d16_56 57 rfl rfl rfl ?_
  refine Gol.iload X16 hx hby d16_57 59 rfl rfl ?_
  refine Gol.callQ X16 hx hby hZ hown (z := zM0) 0 [(.int 3)] (a := (A 0)) (w 112 _ rfl) (w 113 _ rfl) (w 101 _ rfl) rfl (w 114 _ rfl) (w 10 _ rfl) (w 115 _ rfl) (by decide) E_A0 (rmPro3 l Z a0 hw []  A pp (0 : Int32) nx wk ps op s0 s1 h n0 Zs B_A0 ⟨_, V_A1⟩) (by decide) (by decide) e16 (by rw [hml]; rfl) (rest := []) (Nat.le_of_eq rfl) (by decide) (by decide) (lenOf pd_3 rfl) rfl d16_59 62 rfl ?_
  intro T17 v17 L17 X17 hQ17
  obtain ⟨rfl, Nq17, eq17⟩ := hQ17
  have N17 := Fr.app N6 Nq17
  show GolF _ _ _ _ _ _ _ T17 m 62 #[vr (A 0), vi sc, vi (-1), vd 4472406533629990549, ss, vi 1, vi 3, vi 5, vd (FP.l2d ((-s0).toInt64 + M0)), ss, vd z9, ss] [(.double (FP.l2d ((-s1)).toInt64))]
  refine Gol.fB X17 hx hby hZ hown (w 77 _ rfl) eq17 B_A0 19 d16_62 d16_63 66 rfl rfl rfl rfl ?_
  intro T18 X18 e18
  refine Gol.iload X18 hx hby d16_66 68 rfl rfl ?_
  refine Gol.daload X18 hx hby hZ e18 V_A14 d16_68 69 rfl ⟨by decide, by decide⟩ (v := (FP.l2d M1)) rfl ?_
  refine Gol.dadd X18 hx hby d16_69 70 rfl (v := (FP.l2d ((-s1).toInt64 + M1))) own_fin (own_zT hM1.1 hM1.2 .l).1 ?_
  refine Gol.goto X18 hx hby d16_70 74 (by decide) ?_
  refine Gol.dstore X18 hx hby d16_74 76 rfl (l' := #[vr (A 0), vi sc, vi (-1), vd 4472406533629990549, ss, vi 1, vi 3, vi 5, vd (FP.l2d ((-s1).toInt64 + M1)), ss, vd z9, ss]) rfl ?_
  refine Gol.fB X18 hx hby hZ hown (w 67 _ rfl) e18 B_A0 14 d16_76 d16_77 80 rfl rfl rfl rfl ?_
  intro T19 X19 e19
  refine Gol.iload X19 hx hby d16_80 82 rfl rfl ?_
  refine Gol.iaload X19 hx hby hZ e19 V_A7 d16_82 83 rfl ⟨by decide, by decide⟩ (v := y1) rfl ?_
  refine Gol.merge X19 e19 (fun z : UInt64 => cmpValue (FP.dcmp z 4472406533629990549) .l = -1) (fun T' z => T'.setTop (mkF m 98 #[vr (A 0), vi sc, vi (-1), vd 4472406533629990549, ss, vi 1, vi 3, vi 5, vd (FP.l2d ((-s1).toInt64 + M1)), ss, vd z9, ss] [.double z])) ?_ ?_
  · intro k
    show GolF _ _ _ _ _ _ _ T19 m 83 #[vr (A 0), vi sc, vi (-1), vd 4472406533629990549, ss, vi 1, vi 3, vi 5, vd (FP.l2d ((-s1).toInt64 + M1)), ss, vd z9, ss] [(.int y1)]
    by_cases hc83_21 : y1 < (0 : Int32)
    · skip
      refine Gol.ifNo X19 hx hby d16_83 86 rfl ((if0 _ _).trans (tlt hc83_21).2.1) ?_
      refine Gol.fB X19 hx hby hZ hown (w 77 _ rfl) e19 B_A0 19 d16_86 d16_87 90 rfl rfl rfl rfl ?_
      intro T22 X22 e22
      refine Gol.iload X22 hx hby d16_90 92 rfl rfl ?_
      refine Gol.daload X22 hx hby hZ e22 V_A14 d16_92 93 rfl ⟨by decide, by decide⟩ (v := (FP.l2d M1)) rfl ?_
      refine Gol.dneg X22 hx hby d16_93 94 rfl (v := (FP.dneg (FP.l2d M1))) rfl ?_
      refine Gol.goto X22 hx hby d16_94 98 (by decide) ?_
      exact k _ _ X22 e22 (own_ngT hM1.1 (own_mb hM1) _)
    · skip
      refine Gol.ifYes X19 hx hby d16_83 97 (by decide) ((if0 _ _).trans (flt hc83_21).2.1) ?_
      refine Gol.dconst0 X19 hx hby d16_97 98 rfl (v := (0 : UInt64)) (by decide +kernel) ?_
      exact k _ _ X19 e19 (by decide +kernel)
  intro T20 z20 X20 e20 hz20
  show GolF _ _ _ _ _ _ _ T20 m 98 #[vr (A 0), vi sc, vi (-1), vd 4472406533629990549, ss, vi 1, vi 3, vi 5, vd (FP.l2d ((-s1).toInt64 + M1)), ss, vd z9, ss] [(.double z20)]
  refine Gol.dstore X20 hx hby d16_98 100 rfl (l' := #[vr (A 0), vi sc, vi (-1), vd 4472406533629990549, ss, vi 1, vi 3, vi 5, vd (FP.l2d ((-s1).toInt64 + M1)), ss, vd z20, ss]) rfl ?_
  refine Gol.dload X20 hx hby d16_100 102 rfl rfl ?_
  refine Gol.ldc2Double X20 hx hby hZ hown d16_102 105 rfl (w 131 _ rfl) ?_
  refine Gol.dcmp X20 hx hby d16_105 106 rfl (v := (-1 : Int32)) (own_zT hM1.1 hM1.2 .l).2 ?_
  refine Gol.ifYes X20 hx hby d16_106 133 (by decide) ((if0 _ _).trans (flt (by decide : ¬ ((0 : Int32) < (-1 : Int32)))).2.2.2) ?_
  refine Gol.dload X20 hx hby d16_133 135 rfl rfl ?_
  refine Gol.ldc2Double X20 hx hby hZ hown d16_135 138 rfl (w 131 _ rfl) ?_
  refine Gol.dcmp X20 hx hby d16_138 139 rfl (v := (-1 : Int32)) hz20 ?_
  refine Gol.ifYes X20 hx hby d16_139 166 (by decide) ((if0 _ _).trans (flt (by decide : ¬ ((0 : Int32) < (-1 : Int32)))).2.2.2) ?_
  refine Gol.iinc X20 hx hby d16_166 169 rfl rfl (l' := #[vr (A 0), vi sc, vi (-1), vd 4472406533629990549, ss, vi 2, vi 3, vi 5, vd (FP.l2d ((-s1).toInt64 + M1)), ss, vd z20, ss]) rfl ?_
  refine Gol.goto X20 hx hby d16_169 14 (by decide) ?_
  refine Gol.iload X20 hx hby d16_14 16 rfl rfl ?_
  refine Gol.fB X20 hx hby hZ hown (w 36 _ rfl) e20 B_A0 6 d16_16 d16_17 20 rfl rfl rfl rfl ?_
  intro T23 X23 e23
  refine Gol.icmpYes X23 hx hby d16_20 172 (by decide) (flt (by decide : ¬ ((2 : Int32) < (2 : Int32)))).2.1 ?_
  exact k _ _ _ _ X23 N17 e23
theorem d16_0 : dc16 0 (.aload_n 0) 1 := by decide +kernel
theorem d16_1 : dc16 1 (.iconst 0) 1 := by decide +kernel
theorem d16_2 : dc16 2 (.putfield 116) 3 := by decide +kernel
theorem d16_5 : dc16 5 (.iconst (-1)) 1 := by decide +kernel
theorem d16_6 : dc16 6 (.istore_n 2) 1 := by decide +kernel
theorem d16_7 : dc16 7 (.ldc2_w 147) 3 := by decide +kernel
theorem d16_10 : dc16 10 (.dstore_n 3) 1 := by decide +kernel
theorem d16_172 : dc16 172 (.aload_n 0) 1 := by decide +kernel
theorem d16_173 : dc16 173 (.getfield 119) 3 := by decide +kernel
theorem d16_176 : dc16 176 (.istore 5) 2 := by decide +kernel
theorem d16_178 : dc16 178 (.iconst 0) 1 := by decide +kernel
theorem d16_179 : dc16 179 (.istore 6) 2 := by decide +kernel
theorem d16_181 : dc16 181 (.iload 6) 2 := by decide +kernel
theorem d16_183 : dc16 183 (.iload_n 1) 1 := by decide +kernel
theorem d16_184 : dc16 184 (.if_icmp .ge 156) 3 := by decide +kernel
theorem d16_340 : dc16 340 (.aload_n 0) 1 := by decide +kernel
theorem d16_341 : dc16 341 (.iload 5) 2 := by decide +kernel
theorem d16_343 : dc16 343 (.putfield 119) 3 := by decide +kernel
theorem d16_346 : dc16 346 (.iload_n 2) 1 := by decide +kernel
theorem d16_347 : dc16 347 .ireturn 1 := by decide +kernel
theorem pn_16 : plainName "com/example/quorumstone/quorumstone/check/Relaxation" = true := by first | (simp [plainName, overriddenIn]; done) | decide +kernel
theorem ef_Pr0 (m : MethodId)  (A : Nat → Addr) : entryFrame m #[(.ref (A 0)), (.int 0)] 12 = mkF m 0 #[vr (A 0), vi 0, uu, uu, uu, uu, uu, uu, uu, uu, uu, uu] [] := by first | (simp [entryFrame, mkF, argsToLocals, Value.category]; done) | rfl
abbrev QPr0 (Z : State) (A : Nat → Addr) (pp cc wk ps op s0 s1 x0 x1 y0 y1 : Int32) (M0 M1 : Int64) (h0 : Heap) (n0 : Nat) (v : Option Value) (h : Heap) (L : List Loc) : Prop := v = some (.int (-1)) ∧ Fr n0 L ∧ Keep h0 h [(A 0)] ∧ FL Z h (A 0) (rxv A pp (0 : Int32) (0 : Int32) wk ps (3 : Int64) op)
set_option maxRecDepth 65536 in
set_option maxHeartbeats 40000000 in
theorem rmPr0 (l : Launch) (Z : State) (a0 : Array Value) (hw : TW a0 Z) (ws : List Jvm.Cond) (A : Nat → Addr) (pp cc wk ps op s0 s1 x0 x1 y0 y1 : Int32) (M0 M1 : Int64) (h0 : Heap) (n0 : Nat) (Zs : n0 ≤ h0.size) (D : DisA A) (G : FreA A n0) (B_A0 : FL Z h0 (A 0) (rxv A pp cc (0 : Int32) wk ps (3 : Int64) op)) (E_A0 : Exa Z h0 (A 0) "com/example/quorumstone/quorumstone/check/Relaxation") (P1 : Vv Z h0 (A 1) .int (2 : Int32) [(.int s0), (.int s1)] (.int 0)) (P7 : Vv Z h0 (A 7) .int (6 : Int32) [(.int x0), (.int x1), (.int (-1)), (.int (-1)), (.int y0), (.int y1)] (.int 0)) (P14 : Vv Z h0 (A 14) .double (2 : Int32) [(.double (FP.l2d M0)), (.double (FP.l2d M1))] (.double 0)) (hM0 : 0 ≤ M0.toInt ∧ M0.toInt ≤ s0.toInt) (hM1 : 0 ≤ M1.toInt ∧ M1.toInt ≤ s1.toInt) :
    Mt l (⟨"com/example/quorumstone/quorumstone/check/Relaxation", "price", "(I)I"⟩ : MethodName) prog_8_method_15_code 12 (some .int) ws (rmm 2 0 0 60) #[(.ref (A 0)), (.int 0)] Z h0 (QPr0 Z A pp cc wk ps op s0 s1 x0 x1 y0 y1 M0 M1 h0 n0) 0 0 := by
  refine own_body n0 (plainFor_of_name pn_16) hw (fun m => ef_Pr0 m  A) ?_
  intro p ev s m below meth c s₁ Bd hZ hx hby hml hown X0 eh0 N0 w
  obtain ⟨k_A1, V_A1⟩ := P1
  obtain ⟨k_A7, V_A7⟩ := P7
  obtain ⟨k_A14, V_A14⟩ := P14
  have nn_A1 : (A 1) ∉ [(A 0)] := (nnA D 1 [0] rfl)
  have nn_A7 : (A 7) ∉ [(A 0)] := (nnA D 7 [0] rfl)
  have nn_A14 : (A 14) ∉ [(A 0)] := (nnA D 14 [0] rfl)
  have LA := own_LA hw
  have K := Keep.refl h0 [(A 0)]
  show GolF _ _ _ _ _ _ _ s₁ m 0 #[vr (A 0), vi 0, uu, uu, uu, uu, uu, uu, uu, uu, uu, uu] []
  refine Gol.aloadN X0 hx hby d16_0 1 rfl rfl rfl ?_
  refine Gol.iconst X0 hx hby d16_1 2 rfl (z := (0 : Int32)) rfl ?_
  refine Gol.putF X0 hx hby hZ hown (host := "") (Or.inl (w 123 _ rfl)) Via.refl eh0 (B_A0 25 _ _ _ rfl rfl) E_A0 (Or.inl (w 124 _ rfl)) (w 9 _ rfl) (ty := .int) (by decide) rfl rfl d16_2 5 rfl ?_
  intro T1 h1 X1 e1 W1
  have E_A0 := E_A0.wr W1
  have K := K.wr W1 (Or.inl (List.mem_of_getElem? (i := 0) rfl))
  have Zs := Nat.le_trans Zs (Keep.of_wr W1).1
  have B_A0 : FL Z h1 (A 0) (rxv A pp (0 : Int32) (0 : Int32) wk ps (3 : Int64) op) := B_A0.put LA (i0 := 25) rfl W1
  have N1 := Fr.snoc X1 N0 (G 0 rfl)
  refine Gol.iconst X1 hx hby d16_5 6 rfl (z := (-1 : Int32)) rfl ?_
  refine Gol.istoreN X1 hx hby d16_6 7 rfl (l' := #[vr (A 0), vi 0, vi (-1), uu, uu, uu, uu, uu, uu, uu, uu, uu]) rfl ?_
  refine Gol.ldc2Double X1 hx hby hZ hown d16_7 10 rfl (w 131 _ rfl) ?_
  refine Gol.dstoreN X1 hx hby d16_10 11 rfl (l' := #[vr (A 0), vi 0, vi (-1), vd 4472406533629990549, ss, uu, uu, uu, uu, uu, uu, uu]) rfl ?_
  refine own_rows l Z a0 hw A pp (0 : Int32) wk ps op s0 s1 x0 x1 y0 y1 (0 : Int32) M0 M1 _ n0 Zs B_A0 E_A0 ⟨_, (V_A1.keep K nn_A1)⟩ ⟨_, (V_A7.keep K nn_A7)⟩ ⟨_, (V_A14.keep K nn_A14)⟩ hM0 hM1 X1 hx hby hZ hown hml e1 N1 ?_
  intro T2 L2 zp2 zs2 X2 N2 e2
  show GolF _ _ _ _ _ _ _ T2 m 172 #[vr (A 0), vi 0, vi (-1), vd 4472406533629990549, ss, vi 2, vi 3, vi 5, vd zp2, ss, vd zs2, ss] []
  refine Gol.fB X2 hx hby hZ hown (w 125 _ rfl) e2 B_A0 26 d16_172 d16_173 176 rfl rfl rfl rfl ?_
  intro T3 X3 e3
  refine Gol.istore X3 hx hby d16_176 178 rfl (l' := #[vr (A 0), vi 0, vi (-1), vd 4472406533629990549, ss, vi 0, vi 3, vi 5, vd zp2, ss, vd zs2, ss]) rfl ?_
  refine Gol.iconst X3 hx hby d16_178 179 rfl (z := (0 : Int32)) rfl ?_
  refine Gol.istore X3 hx hby d16_179 181 rfl (l' := #[vr (A 0), vi 0, vi (-1), vd 4472406533629990549, ss, vi 0, vi 0, vi 5, vd zp2, ss, vd zs2, ss]) rfl ?_
  refine Gol.iload X3 hx hby d16_181 183 rfl rfl ?_
  refine Gol.iloadN X3 hx hby d16_183 184 rfl rfl ?_
  refine Gol.icmpYes X3 hx hby d16_184 340 (by decide) (flt (by decide : ¬ ((0 : Int32) < (0 : Int32)))).2.1 ?_
  refine Gol.aloadN X3 hx hby d16_340 341 rfl rfl rfl ?_
  refine Gol.iload X3 hx hby d16_341 343 rfl rfl ?_
  refine Gol.putF X3 hx hby hZ hown (host := "") (Or.inl (w 125 _ rfl)) Via.refl e3 (B_A0 26 _ _ _ rfl rfl) E_A0 (Or.inl (w 126 _ rfl)) (w 9 _ rfl) (ty := .int) (by decide) rfl rfl d16_343 346 rfl ?_
  intro T4 h4 X4 e4 W4
  have K := K.wr W4 (Or.inl (List.mem_of_getElem? (i := 0) rfl))
  have B_A0 : FL Z h4 (A 0) (rxv A pp (0 : Int32) (0 : Int32) wk ps (3 : Int64) op) := B_A0.put LA (i0 := 26) rfl W4
  have N4 := Fr.snoc X4 N2 (G 0 rfl)
  refine Gol.iloadN X4 hx hby d16_346 347 rfl rfl ?_
  exact Gol.retI X4 hx hby Bd.returns Bd.notSynchronized d16_347 e4 ⟨rfl, N4, K, B_A0⟩ (by decide) (by decide)
theorem d16_187 : dc16 187 (.iload 6) 2 := by decide +kernel
theorem d16_189 : dc16 189 (.aload_n 0) 1 := by decide +kernel
theorem d16_190 : dc16 190 (.getfield 35) 3 := by decide +kernel
theorem d16_193 : dc16 193 (.if_icmp .lt 7) 3 := by decide +kernel
theorem d16_196 : dc16 196 (.iload_n 2) 1 := by decide +kernel
theorem d16_197 : dc16 197 (.ifCond .ge 143) 3 := by decide +kernel
theorem d16_200 : dc16 200 (.aload_n 0) 1 := by decide +kernel
theorem d16_201 : dc16 201 (.getfield 51) 3 := by decide +kernel
theorem d16_204 : dc16 204 (.iload 5) 2 := by decide +kernel
theorem d16_206 : dc16 206 .iaload 1 := by decide +kernel
theorem d16_207 : dc16 207 (.istore 7) 2 := by decide +kernel
theorem d16_209 : dc16 209 (.aload_n 0) 1 := by decide +kernel
theorem d16_210 : dc16 210 (.getfield 72) 3 := by decide +kernel
theorem d16_213 : dc16 213 (.iload 7) 2 := by decide +kernel
theorem d16_215 : dc16 215 .iaload 1 := by decide +kernel
theorem d16_216 : dc16 216 (.ifCond .ge 100) 3 := by decide +kernel
theorem d16_219 : dc16 219 (.aload_n 0) 1 := by decide +kernel
theorem d16_220 : dc16 220 (.getfield 45) 3 := by decide +kernel
theorem d16_223 : dc16 223 (.iload 7) 2 := by decide +kernel
theorem d16_225 : dc16 225 .iaload 1 := by decide +kernel
theorem d16_226 : dc16 226 (.aload_n 0) 1 := by decide +kernel
theorem d16_227 : dc16 227 (.getfield 48) 3 := by decide +kernel
theorem d16_230 : dc16 230 (.iload 7) 2 := by decide +kernel
theorem d16_232 : dc16 232 .iaload 1 := by decide +kernel
theorem d16_233 : dc16 233 .isub 1 := by decide +kernel
theorem d16_234 : dc16 234 .i2d 1 := by decide +kernel
theorem d16_235 : dc16 235 (.dstore 8) 2 := by decide +kernel
theorem d16_237 : dc16 237 (.aload_n 0) 1 := by decide +kernel
theorem d16_238 : dc16 238 (.getfield 57) 3 := by decide +kernel
theorem d16_241 : dc16 241 (.iload 7) 2 := by decide +kernel
theorem d16_243 : dc16 243 .iaload 1 := by decide +kernel
theorem d16_244 : dc16 244 (.istore 10) 2 := by decide +kernel
theorem d16_246 : dc16 246 (.iload 10) 2 := by decide +kernel
theorem d16_248 : dc16 248 (.aload_n 0) 1 := by decide +kernel
theorem d16_249 : dc16 249 (.getfield 57) 3 := by decide +kernel
theorem d16_252 : dc16 252 (.iload 7) 2 := by decide +kernel
theorem d16_254 : dc16 254 (.iconst 1) 1 := by decide +kernel
theorem d16_255 : dc16 255 .iadd 1 := by decide +kernel
theorem d16_256 : dc16 256 .iaload 1 := by decide +kernel
theorem d16_257 : dc16 257 (.if_icmp .ge 26) 3 := by decide +kernel
theorem d16_260 : dc16 260 (.dload 8) 2 := by decide +kernel
theorem d16_262 : dc16 262 (.aload_n 0) 1 := by decide +kernel
theorem d16_263 : dc16 263 (.getfield 87) 3 := by decide +kernel
theorem d16_266 : dc16 266 (.aload_n 0) 1 := by decide +kernel
theorem d16_267 : dc16 267 (.getfield 66) 3 := by decide +kernel
theorem d16_270 : dc16 270 (.iload 10) 2 := by decide +kernel
theorem d16_272 : dc16 272 .iaload 1 := by decide +kernel
theorem d16_273 : dc16 273 .daload 1 := by decide +kernel
theorem d16_274 : dc16 274 .dsub 1 := by decide +kernel
theorem d16_275 : dc16 275 (.dstore 8) 2 := by decide +kernel
theorem d16_277 : dc16 277 (.iinc 10 1) 3 := by decide +kernel
theorem d16_280 : dc16 280 (.goto (-34)) 3 := by decide +kernel
theorem d16_283 : dc16 283 (.dload 8) 2 := by decide +kernel
theorem d16_285 : dc16 285 (.ldc2_w 147) 3 := by decide +kernel
theorem d16_288 : dc16 288 (.dcmp .l) 1 := by decide +kernel
theorem d16_289 : dc16 289 (.ifCond .le 27) 3 := by decide +kernel
theorem d16_292 : dc16 292 (.aload_n 0) 1 := by decide +kernel
theorem d16_293 : dc16 293 (.iload 7) 2 := by decide +kernel
theorem d16_295 : dc16 295 (.dload 8) 2 := by decide +kernel
theorem d16_297 : dc16 297 (.invokevirtual 185) 3 := by decide +kernel
theorem d16_300 : dc16 300 (.ifCond .eq 16) 3 := by decide +kernel
theorem d16_303 : dc16 303 (.dload 8) 2 := by decide +kernel
theorem d16_305 : dc16 305 (.dload_n 3) 1 := by decide +kernel
theorem d16_306 : dc16 306 (.dcmp .l) 1 := by decide +kernel
theorem d16_307 : dc16 307 (.ifCond .le 9) 3 := by decide +kernel
theorem d16_310 : dc16 310 (.iload 7) 2 := by decide +kernel
theorem d16_312 : dc16 312 (.istore_n 2) 1 := by decide +kernel
theorem d16_313 : dc16 313 (.dload 8) 2 := by decide +kernel
theorem d16_315 : dc16 315 (.dstore_n 3) 1 := by decide +kernel
theorem d16_316 : dc16 316 (.iload 5) 2 := by decide +kernel
theorem d16_318 : dc16 318 (.iconst 1) 1 := by decide +kernel
theorem d16_319 : dc16 319 .iadd 1 := by decide +kernel
theorem d16_320 : dc16 320 (.iload_n 1) 1 := by decide +kernel
theorem d16_321 : dc16 321 (.if_icmp .ge 10) 3 := by decide +kernel
theorem d16_331 : dc16 331 (.iconst 0) 1 := by decide +kernel
theorem d16_332 : dc16 332 (.istore 5) 2 := by decide +kernel
theorem d16_334 : dc16 334 (.iinc 6 1) 3 := by decide +kernel
theorem d16_337 : dc16 337 (.goto (-156)) 3 := by decide +kernel
theorem ef_Pr1 (m : MethodId)  (A : Nat → Addr) : entryFrame m #[(.ref (A 0)), (.int 1)] 12 = mkF m 0 #[vr (A 0), vi 1, uu, uu, uu, uu, uu, uu, uu, uu, uu, uu] [] := by first | (simp [entryFrame, mkF, argsToLocals, Value.category]; done) | rfl
abbrev QPr1 (Z : State) (A : Nat → Addr) (pp cc wk ps op s0 s1 x0 x1 y0 y1 : Int32) (M0 M1 : Int64) (a b nd0 nd1 tk0 tk1 dc0 dc1 : Int32) (c0 c1 c2 c3 c4 c5 c6 c7 q0 q1 q2 q3 q4 q5 q6 q7 : Value) (h0 : Heap) (n0 : Nat) (v : Option Value) (h : Heap) (L : List Loc) : Prop := v = some (.int a) ∧ Fr n0 L ∧ Keep h0 h [(A 0), (A 17), (A 18)] ∧ FL Z h (A 0) (rxv A pp (1 : Int32) (0 : Int32) (0 : Int32) ps (3 : Int64) op) ∧ Vv Z h (A 17) .int (8 : Int32) [(.int a), c1, c2, c3, c4, c5, c6, c7] (.int 0) ∧ Vv Z h (A 18) .double (8 : Int32) [(.double (FP.l2d (prf a nd0 nd1 tk0 tk1))), q1, q2, q3, q4, q5, q6, q7] (.double 0)
set_option maxRecDepth 65536 in
set_option maxHeartbeats 40000000 in
theorem rmPr1 (l : Launch) (Z : State) (a0 : Array Value) (hw : TW a0 Z) (ws : List Jvm.Cond) (A : Nat → Addr) (pp cc wk ps op s0 s1 x0 x1 y0 y1 : Int32) (M0 M1 : Int64) (a b nd0 nd1 tk0 tk1 dc0 dc1 : Int32) (c0 c1 c2 c3 c4 c5 c6 c7 q0 q1 q2 q3 q4 q5 q6 q7 : Value) (h0 : Heap) (n0 : Nat) (Zs : n0 ≤ h0.size) (D : DisA A) (G : FreA A n0) (B_A0 : FL Z h0 (A 0) (rxv A pp cc (0 : Int32) wk ps (3 : Int64) op)) (E_A0 : Exa Z h0 (A 0) "com/example/quorumstone/quorumstone/check/Relaxation") (P1 : Vv Z h0 (A 1) .int (2 : Int32) [(.int s0), (.int s1)] (.int 0)) (P7 : Vv Z h0 (A 7) .int (6 : Int32) [(.int x0), (.int x1), (.int (-1)), (.int (-1)), (.int y0), (.int y1)] (.int 0)) (P14 : Vv Z h0 (A 14) .double (2 : Int32) [(.double (FP.l2d M0)), (.double (FP.l2d M1))] (.double 0)) (P4 : Vv Z h0 (A 4) .int (2 : Int32) [(.int a), (.int b)] (.int 0)) (P2 : Vv Z h0 (A 2) .int (2 : Int32) [(.int nd0), (.int nd1)] (.int 0)) (P3 : Vv Z h0 (A 3) .int (2 : Int32) [(.int tk0), (.int tk1)] (.int 0)) (P5 : Vv Z h0 (A 5) .int (3 : Int32) [(.int 0), (.int 1), (.int 2)] (.int 0)) (P6 : Vv Z h0 (A 6) .int (2 : Int32) [(.int dc0), (.int dc1)] (.int 0)) (P17 : Vv Z h0 (A 17) .int (8 : Int32) [c0, c1, c2, c3, c4, c5, c6, c7] (.int 0)) (P18 : Vv Z h0 (A 18) .double (8 : Int32) [q0, q1, q2, q3, q4, q5, q6, q7] (.double 0)) (hM0 : 0 ≤ M0.toInt ∧ M0.toInt ≤ s0.toInt) (hM1 : 0 ≤ M1.toInt ∧ M1.toInt ≤ s1.toInt) (ha : B01 a) (hb : B01 b) (hba :  sel a x0 x1 < 0) (hdc0 : B01 dc0) (hdc1 : B01 dc1) (hma : sel (sel a dc0 dc1) (FP.l2d M0) (FP.l2d M1) = 0) (hpa : 0 < (prf a nd0 nd1 tk0 tk1).toInt) :
    Mt l (⟨"com/example/quorumstone/quorumstone/check/Relaxation", "price", "(I)I"⟩ : MethodName) prog_8_method_15_code 12 (some .int) ws (rmm 2 0 0 60) #[(.ref (A 0)), (.int 1)] Z h0 (QPr1 Z A pp cc wk ps op s0 s1 x0 x1 y0 y1 M0 M1 a b nd0 nd1 tk0 tk1 dc0 dc1 c0 c1 c2 c3 c4 c5 c6 c7 q0 q1 q2 q3 q4 q5 q6 q7 h0 n0) 0 0 := by
  refine own_body n0 (plainFor_of_name pn_16) hw (fun m => ef_Pr1 m  A) ?_
  intro p ev s m below meth c s₁ Bd hZ hx hby hml hown X0 eh0 N0 w
  obtain ⟨k_A1, V_A1⟩ := P1
  obtain ⟨k_A7, V_A7⟩ := P7
  obtain ⟨k_A14, V_A14⟩ := P14
  obtain ⟨k_A4, V_A4⟩ := P4
  obtain ⟨k_A2, V_A2⟩ := P2
  obtain ⟨k_A3, V_A3⟩ := P3
  obtain ⟨k_A5, V_A5⟩ := P5
  obtain ⟨k_A6, V_A6⟩ := P6
  obtain ⟨k_A17, V_A17⟩ := P17
  obtain ⟨k_A18, V_A18⟩ := P18
  have nn_A1 : (A 1) ∉ [(A 0), (A 17), (A 18)] := (nnA D 1 [0, 17, 18] rfl)
  have nn_A7 : (A 7) ∉ [(A 0), (A 17), (A 18)] := (nnA D 7 [0, 17, 18] rfl)
  have nn_A14 : (A 14) ∉ [(A 0), (A 17), (A 18)] := (nnA D 14 [0, 17, 18] rfl)
  have nn_A4 : (A 4) ∉ [(A 0), (A 17), (A 18)] := (nnA D 4 [0, 17, 18] rfl)
  have nn_A2 : (A 2) ∉ [(A 0), (A 17), (A 18)] := (nnA D 2 [0, 17, 18] rfl)
  have nn_A3 : (A 3) ∉ [(A 0), (A 17), (A 18)] := (nnA D 3 [0, 17, 18] rfl)
  have nn_A5 : (A 5) ∉ [(A 0), (A 17), (A 18)] := (nnA D 5 [0, 17, 18] rfl)
  have nn_A6 : (A 6) ∉ [(A 0), (A 17), (A 18)] := (nnA D 6 [0, 17, 18] rfl)
  have LA := own_LA hw
  have K := Keep.refl h0 [(A 0), (A 17), (A 18)]
  show GolF _ _ _ _ _ _ _ s₁ m 0 #[vr (A 0), vi 1, uu, uu, uu, uu, uu, uu, uu, uu, uu, uu] []
  refine Gol.aloadN X0 hx hby d16_0 1 rfl rfl rfl ?_
  refine Gol.iconst X0 hx hby d16_1 2 rfl (z := (0 : Int32)) rfl ?_
  refine Gol.putF X0 hx hby hZ hown (host := "") (Or.inl (w 123 _ rfl)) Via.refl eh0 (B_A0 25 _ _ _ rfl rfl) E_A0 (Or.inl (w 124 _ rfl)) (w 9 _ rfl) (ty := .int) (by decide) rfl rfl d16_2 5 rfl ?_
  intro T1 h1 X1 e1 W1
  have E_A0 := E_A0.wr W1
  have V_A17 := V_A17.other W1 (D 17 0 rfl)
  have V_A18 := V_A18.other W1 (D 18 0 rfl)
  have K := K.wr W1 (Or.inl (List.mem_of_getElem? (i := 0) rfl))
  have Zs := Nat.le_trans Zs (Keep.of_wr W1).1
  have B_A0 : FL Z h1 (A 0) (rxv A pp (0 : Int32) (0 : Int32) wk ps (3 : Int64) op) := B_A0.put LA (i0 := 25) rfl W1
  have N1 := Fr.snoc X1 N0 (G 0 rfl)
  refine Gol.iconst X1 hx hby d16_5 6 rfl (z := (-1 : Int32)) rfl ?_
  refine Gol.istoreN X1 hx hby d16_6 7 rfl (l' := #[vr (A 0), vi 1, vi (-1), uu, uu, uu, uu, uu, uu, uu, uu, uu]) rfl ?_
  refine Gol.ldc2Double X1 hx hby hZ hown d16_7 10 rfl (w 131 _ rfl) ?_
  refine Gol.dstoreN X1 hx hby d16_10 11 rfl (l' := #[vr (A 0), vi 1, vi (-1), vd 4472406533629990549, ss, uu, uu, uu, uu, uu, uu, uu]) rfl ?_
  refine own_rows l Z a0 hw A pp (0 : Int32) wk ps op s0 s1 x0 x1 y0 y1 (1 : Int32) M0 M1 _ n0 Zs B_A0 E_A0 ⟨_, (V_A1.keep K nn_A1)⟩ ⟨_, (V_A7.keep K nn_A7)⟩ ⟨_, (V_A14.keep K nn_A14)⟩ hM0 hM1 X1 hx hby hZ hown hml e1 N1 ?_
  intro T2 L2 zp2 zs2 X2 N2 e2
  show GolF _ _ _ _ _ _ _ T2 m 172 #[vr (A 0), vi 1, vi (-1), vd 4472406533629990549, ss, vi 2, vi 3, vi 5, vd zp2, ss, vd zs2, ss] []
  refine Gol.fB X2 hx hby hZ hown (w 125 _ rfl) e2 B_A0 26 d16_172 d16_173 176 rfl rfl rfl rfl ?_
  intro T3 X3 e3
  refine Gol.istore X3 hx hby d16_176 178 rfl (l' := #[vr (A 0), vi 1, vi (-1), vd 4472406533629990549, ss, vi 0, vi 3, vi 5, vd zp2, ss, vd zs2, ss]) rfl ?_
  refine Gol.iconst X3 hx hby d16_178 179 rfl (z := (0 : Int32)) rfl ?_
  refine Gol.istore X3 hx hby d16_179 181 rfl (l' := #[vr (A 0), vi 1, vi (-1), vd 4472406533629990549, ss, vi 0, vi 0, vi 5, vd zp2, ss, vd zs2, ss]) rfl ?_
  refine Gol.iload X3 hx hby d16_181 183 rfl rfl ?_
  refine Gol.iloadN X3 hx hby d16_183 184 rfl rfl ?_
  refine Gol.icmpNo X3 hx hby d16_184 187 rfl (tlt (by decide : (0 : Int32) < (1 : Int32))).2.1 ?_
  refine Gol.iload X3 hx hby d16_187 189 rfl rfl ?_
  refine Gol.fB X3 hx hby hZ hown (w 34 _ rfl) e3 B_A0 5 d16_189 d16_190 193 rfl rfl rfl rfl ?_
  intro T4 X4 e4
  refine Gol.dia (S' := (T4.setTop (mkF m 200 #[vr (A 0), vi 1, vi (-1), vd 4472406533629990549, ss, vi 0, vi 0, vi 5, vd zp2, ss, vd zs2, ss] []))) ?_ ?_
  · intro k
    by_cases hc193_5 : (0 : Int32) < pp
    · skip
      refine Gol.icmpYes X4 hx hby d16_193 200 (by decide) (tlt hc193_5).1 ?_
      exact k
    · skip
      refine Gol.icmpNo X4 hx hby d16_193 196 rfl (flt hc193_5).1 ?_
      refine Gol.iloadN X4 hx hby d16_196 197 rfl rfl ?_
      refine Gol.ifNo X4 hx hby d16_197 200 rfl ((if0 _ _).trans (tlt (by decide : (-1 : Int32) < (0 : Int32))).2.1) ?_
      exact k
  show GolF _ _ _ _ _ _ _ T4 m 200 #[vr (A 0), vi 1, vi (-1), vd 4472406533629990549, ss, vi 0, vi 0, vi 5, vd zp2, ss, vd zs2, ss] []
  refine Gol.fB X4 hx hby hZ hown (w 44 _ rfl) e4 B_A0 10 d16_200 d16_201 204 rfl rfl rfl rfl ?_
  intro T6 X6 e6
  refine Gol.iload X6 hx hby d16_204 206 rfl rfl ?_
  refine Gol.iaload X6 hx hby hZ e6 (V_A4.keep K nn_A4) d16_206 207 rfl ⟨by decide, by decide⟩ (v := a) rfl ?_
  refine Gol.istore X6 hx hby d16_207 209 rfl (l' := #[vr (A 0), vi 1, vi (-1), vd 4472406533629990549, ss, vi 0, vi 0, vi a, vd zp2, ss, vd zs2, ss]) rfl ?_
  refine Gol.fB X6 hx hby hZ hown (w 67 _ rfl) e6 B_A0 14 d16_209 d16_210 213 rfl rfl rfl rfl ?_
  intro T7 X7 e7
  refine Gol.iload X7 hx hby d16_213 215 rfl rfl ?_
  refine Gol.iaload X7 hx hby hZ e7 (V_A7.keep K nn_A7) d16_215 216 rfl (own_in6 ha) (v := (sel a x0 x1)) (own_rI ha) ?_
  refine Gol.ifNo X7 hx hby d16_216 219 rfl ((if0 _ _).trans (tlt hba).2.1) ?_
  refine Gol.fB X7 hx hby hZ hown (w 40 _ rfl) e7 B_A0 8 d16_219 d16_220 223 rfl rfl rfl rfl ?_
  intro T8 X8 e8
  refine Gol.iload X8 hx hby d16_223 225 rfl rfl ?_
  refine Gol.iaload X8 hx hby hZ e8 (V_A2.keep K nn_A2) d16_225 226 rfl (own_in2 ha) (v := (sel a nd0 nd1)) (own_rI ha) ?_
  refine Gol.fB X8 hx hby hZ hown (w 42 _ rfl) e8 B_A0 9 d16_226 d16_227 230 rfl rfl rfl rfl ?_
  intro T9 X9 e9
  refine Gol.iload X9 hx hby d16_230 232 rfl rfl ?_
  refine Gol.iaload X9 hx hby hZ e9 (V_A3.keep K nn_A3) d16_232 233 rfl (own_in2 ha) (v := (sel a tk0 tk1)) (own_rI ha) ?_
  refine Gol.isub X9 hx hby d16_233 234 rfl rfl ?_
  refine Gol.i2d X9 hx hby d16_234 235 rfl (v := (FP.l2d (prf a nd0 nd1 tk0 tk1))) (own_i2p hpa) ?_
  refine Gol.dstore X9 hx hby d16_235 237 rfl (l' := #[vr (A 0), vi 1, vi (-1), vd 4472406533629990549, ss, vi 0, vi 0, vi a, vd (FP.l2d (prf a nd0 nd1 tk0 tk1)), ss, vd zs2, ss]) rfl ?_
  refine Gol.fB X9 hx hby hZ hown (w 48 _ rfl) e9 B_A0 12 d16_237 d16_238 241 rfl rfl rfl rfl ?_
  intro T10 X10 e10
  refine Gol.iload X10 hx hby d16_241 243 rfl rfl ?_
  refine Gol.iaload X10 hx hby hZ e10 (V_A5.keep K nn_A5) d16_243 244 rfl (own_in3 ha) (v := a) (own_ds0 ha) ?_
  refine Gol.istore X10 hx hby d16_244 246 rfl (l' := #[vr (A 0), vi 1, vi (-1), vd 4472406533629990549, ss, vi 0, vi 0, vi a, vd (FP.l2d (prf a nd0 nd1 tk0 tk1)), ss, vi a, uu]) rfl ?_
  refine Gol.iload X10 hx hby d16_246 248 rfl rfl ?_
  refine Gol.fB X10 hx hby hZ hown (w 48 _ rfl) e10 B_A0 12 d16_248 d16_249 252 rfl rfl rfl rfl ?_
  intro T11 X11 e11
  refine Gol.iload X11 hx hby d16_252 254 rfl rfl ?_
  refine Gol.iconst X11 hx hby d16_254 255 rfl (z := (1 : Int32)) rfl ?_
  refine Gol.iadd X11 hx hby d16_255 256 rfl rfl ?_
  refine Gol.iaload X11 hx hby hZ e11 (V_A5.keep K nn_A5) d16_256 257 rfl (own_in31 ha) (v := (a + (1 : Int32))) (own_ds1 ha) ?_
  refine Gol.icmpNo X11 hx hby d16_257 260 rfl (tlt (own_lts ha)).2.1 ?_
  refine Gol.dload X11 hx hby d16_260 262 rfl rfl ?_
  refine Gol.fB X11 hx hby hZ hown (w 77 _ rfl) e11 B_A0 19 d16_262 d16_263 266 rfl rfl rfl rfl ?_
  intro T12 X12 e12
  refine Gol.fB X12 hx hby hZ hown (w 57 _ rfl) e12 B_A0 13 d16_266 d16_267 270 rfl rfl rfl rfl ?_
  intro T13 X13 e13
  refine Gol.iload X13 hx hby d16_270 272 rfl rfl ?_
  refine Gol.iaload X13 hx hby hZ e13 (V_A6.keep K nn_A6) d16_272 273 rfl (own_in2 ha) (v := (sel a dc0 dc1)) (own_rI ha) ?_
  refine Gol.daload X13 hx hby hZ e13 (V_A14.keep K nn_A14) d16_273 274 rfl (own_in2 (own_selB hdc0 hdc1)) (v := (0 : UInt64)) ((own_rD (own_selB hdc0 hdc1)).trans (congrArg Value.double hma)) ?_
  refine Gol.dsub X13 hx hby d16_274 275 rfl (v := (FP.l2d (prf a nd0 nd1 tk0 tk1))) own_fin (own_sub0 (own_b53 _)) ?_
  refine Gol.dstore X13 hx hby d16_275 277 rfl (l' := #[vr (A 0), vi 1, vi (-1), vd 4472406533629990549, ss, vi 0, vi 0, vi a, vd (FP.l2d (prf a nd0 nd1 tk0 tk1)), ss, vi a, uu]) rfl ?_
  refine Gol.iinc X13 hx hby d16_277 280 rfl rfl (l' := #[vr (A 0), vi 1, vi (-1), vd 4472406533629990549, ss, vi 0, vi 0, vi a, vd (FP.l2d (prf a nd0 nd1 tk0 tk1)), ss, vi (a + (1 : Int32)), uu]) rfl ?_
  refine Gol.goto X13 hx hby d16_280 246 (by decide) ?_
  refine Gol.iload X13 hx hby d16_246 248 rfl rfl ?_
  refine Gol.fB X13 hx hby hZ hown (w 48 _ rfl) e13 B_A0 12 d16_248 d16_249 252 rfl rfl rfl rfl ?_
  intro T14 X14 e14
  refine Gol.iload X14 hx hby d16_252 254 rfl rfl ?_
  refine Gol.iconst X14 hx hby d16_254 255 rfl (z := (1 : Int32)) rfl ?_
  refine Gol.iadd X14 hx hby d16_255 256 rfl rfl ?_
  refine Gol.iaload X14 hx hby hZ e14 (V_A5.keep K nn_A5) d16_256 257 rfl (own_in31 ha) (v := (a + (1 : Int32))) (own_ds1 ha) ?_
  refine Gol.icmpYes X14 hx hby d16_257 283 (by decide) (flt Int32.lt_irrefl).2.1 ?_
  refine Gol.dload X14 hx hby d16_283 285 rfl rfl ?_
  refine Gol.ldc2Double X14 hx hby hZ hown d16_285 288 rfl (w 131 _ rfl) ?_
  refine Gol.dcmp X14 hx hby d16_288 289 rfl (v := (1 : Int32)) (own_cmpT hpa (own_b53 _) _) ?_
  refine Gol.ifNo X14 hx hby d16_289 292 rfl ((if0 _ _).trans (tlt (by decide : (0 : Int32) < (1 : Int32))).2.2.2) ?_
  refine Gol.aloadN X14 hx hby d16_292 293 rfl rfl rfl ?_
  refine Gol.iload X14 hx hby d16_293 295 rfl rfl ?_
  refine Gol.dload X14 hx hby d16_295 297 rfl rfl ?_
  refine Gol.callQ X14 hx hby hZ hown (z := zM0) 0 [(.int a), (.double (FP.l2d (prf a nd0 nd1 tk0 tk1)))] (a := (A 0)) (w 136 _ rfl) (w 137 _ rfl) (w 101 _ rfl) rfl (w 138 _ rfl) (w 10 _ rfl) (w 139 _ rfl) (by decide) E_A0 (rmOff0 l Z a0 hw [] a (FP.l2d (prf a nd0 nd1 tk0 tk1)) A pp (0 : Int32) wk ps (3 : Int64) op c0 c1 c2 c3 c4 c5 c6 c7 q0 q1 q2 q3 q4 q5 q6 q7 h1 n0 Zs D G B_A0 E_A0 ⟨_, V_A17⟩ ⟨_, V_A18⟩ ) (by decide) (by decide) e14 (by rw [hml]; rfl) (rest := []) (Nat.le_of_eq rfl) (by decide) (by decide) (lenOf pd_5 rfl) rfl d16_297 300 rfl ?_
  intro T15 v15 L15 X15 hQ15
  obtain ⟨rfl, Nq15, Kq15, B_A0, ⟨k15_A17, V_A17⟩, ⟨k15_A18, V_A18⟩⟩ := hQ15
  have N15 := Fr.app N2 Nq15
  have E_A0 := E_A0.keep Kq15
  have K := K.trans Kq15 (allS (Or.inl (List.mem_of_getElem? (i := 0) rfl)) (allS (Or.inl (List.mem_of_getElem? (i := 1) rfl)) (allS (Or.inl (List.mem_of_getElem? (i := 2) rfl)) all0)))
  show GolF _ _ _ _ _ _ _ T15 m 300 #[vr (A 0), vi 1, vi (-1), vd 4472406533629990549, ss, vi 0, vi 0, vi a, vd (FP.l2d (prf a nd0 nd1 tk0 tk1)), ss, vi (a + (1 : Int32)), uu] [(.int 1)]
  refine Gol.ifNo X15 hx hby d16_300 303 rfl ((if0 _ _).trans (feq (by decide : ¬ ((1 : Int32) = (0 : Int32)))).1) ?_
  refine Gol.dload X15 hx hby d16_303 305 rfl rfl ?_
  refine Gol.dloadN X15 hx hby d16_305 306 rfl rfl ?_
  refine Gol.dcmp X15 hx hby d16_306 307 rfl (v := (1 : Int32)) (own_cmpT hpa (own_b53 _) _) ?_
  refine Gol.ifNo X15 hx hby d16_307 310 rfl ((if0 _ _).trans (tlt (by decide : (0 : Int32) < (1 : Int32))).2.2.2) ?_
  refine Gol.iload X15 hx hby d16_310 312 rfl rfl ?_
  refine Gol.istoreN X15 hx hby d16_312 313 rfl (l' := #[vr (A 0), vi 1, vi a, vd 4472406533629990549, ss, vi 0, vi 0, vi a, vd (FP.l2d (prf a nd0 nd1 tk0 tk1)), ss, vi (a + (1 : Int32)), uu]) rfl ?_
  refine Gol.dload X15 hx hby d16_313 315 rfl rfl ?_
  refine Gol.dstoreN X15 hx hby d16_315 316 rfl (l' := #[vr (A 0), vi 1, vi a, vd (FP.l2d (prf a nd0 nd1 tk0 tk1)), ss, vi 0, vi 0, vi a, vd (FP.l2d (prf a nd0 nd1 tk0 tk1)), ss, vi (a + (1 : Int32)), uu]) rfl ?_
  refine Gol.iload X15 hx hby d16_316 318 rfl rfl ?_
  refine Gol.iconst X15 hx hby d16_318 319 rfl (z := (1 : Int32)) rfl ?_
  refine Gol.iadd X15 hx hby d16_319 320 rfl (z := (1 : Int32)) rfl ?_
  refine Gol.iloadN X15 hx hby d16_320 321 rfl rfl ?_
  refine Gol.icmpYes X15 hx hby d16_321 331 (by decide) (flt (by decide : ¬ ((1 : Int32) < (1 : Int32)))).2.1 ?_
  refine Gol.iconst X15 hx hby d16_331 332 rfl (z := (0 : Int32)) rfl ?_
  refine Gol.istore X15 hx hby d16_332 334 rfl (l' := #[vr (A 0), vi 1, vi a, vd (FP.l2d (prf a nd0 nd1 tk0 tk1)), ss, vi 0, vi 0, vi a, vd (FP.l2d (prf a nd0 nd1 tk0 tk1)), ss, vi (a + (1 : Int32)), uu]) rfl ?_
  refine Gol.iinc X15 hx hby d16_334 337 rfl rfl (l' := #[vr (A 0), vi 1, vi a, vd (FP.l2d (prf a nd0 nd1 tk0 tk1)), ss, vi 0, vi 1, vi a, vd (FP.l2d (prf a nd0 nd1 tk0 tk1)), ss, vi (a + (1 : Int32)), uu]) rfl ?_
  refine Gol.goto X15 hx hby d16_337 181 (by decide) ?_
  refine Gol.iload X15 hx hby d16_181 183 rfl rfl ?_
  refine Gol.iloadN X15 hx hby d16_183 184 rfl rfl ?_
  refine Gol.icmpYes X15 hx hby d16_184 340 (by decide) (flt (by decide : ¬ ((1 : Int32) < (1 : Int32)))).2.1 ?_
  refine Gol.aloadN X15 hx hby d16_340 341 rfl rfl rfl ?_
  refine Gol.iload X15 hx hby d16_341 343 rfl rfl ?_
  refine Gol.putF X15 hx hby hZ hown (host := "") (Or.inl (w 125 _ rfl)) Via.refl rfl (B_A0 26 _ _ _ rfl rfl) E_A0 (Or.inl (w 126 _ rfl)) (w 9 _ rfl) (ty := .int) (by decide) rfl rfl d16_343 346 rfl ?_
  intro T16 h16 X16 e16 W16
  have V_A17 := V_A17.other W16 (D 17 0 rfl)
  have V_A18 := V_A18.other W16 (D 18 0 rfl)
  have K := K.wr W16 (Or.inl (List.mem_of_getElem? (i := 0) rfl))
  have B_A0 : FL Z h16 (A 0) (rxv A pp (1 : Int32) (0 : Int32) (0 : Int32) ps (3 : Int64) op) := B_A0.put LA (i0 := 26) rfl W16
  have N16 := Fr.snoc X16 N15 (G 0 rfl)
  refine Gol.iloadN X16 hx hby d16_346 347 rfl rfl ?_
  exact Gol.retI X16 hx hby Bd.returns Bd.notSynchronized d16_347 e16 ⟨rfl, N16, K, B_A0, ⟨_, V_A17⟩, ⟨_, V_A18⟩⟩ (by decide) (by decide)
theorem ef_Pr1n (m : MethodId)  (A : Nat → Addr) : entryFrame m #[(.ref (A 0)), (.int 1)] 12 = mkF m 0 #[vr (A 0), vi 1, uu, uu, uu, uu, uu, uu, uu, uu, uu, uu] [] := by first | (simp [entryFrame, mkF, argsToLocals, Value.category]; done) | rfl
abbrev QPr1n (Z : State) (A : Nat → Addr) (pp cc wk ps op s0 s1 x0 x1 y0 y1 : Int32) (M0 M1 : Int64) (a b : Int32) (h0 : Heap) (n0 : Nat) (v : Option Value) (h : Heap) (L : List Loc) : Prop := v = some (.int (-1)) ∧ Fr n0 L ∧ Keep h0 h [(A 0)] ∧ FL Z h (A 0) (rxv A pp (0 : Int32) (0 : Int32) wk ps (3 : Int64) op)
set_option maxRecDepth 65536 in
set_option maxHeartbeats 40000000 in
theorem rmPr1n (l : Launch) (Z : State) (a0 : Array Value) (hw : TW a0 Z) (ws : List Jvm.Cond) (A : Nat → Addr) (pp cc wk ps op s0 s1 x0 x1 y0 y1 : Int32) (M0 M1 : Int64) (a b : Int32) (h0 : Heap) (n0 : Nat) (Zs : n0 ≤ h0.size) (D : DisA A) (G : FreA A n0) (B_A0 : FL Z h0 (A 0) (rxv A pp cc (0 : Int32) wk ps (3 : Int64) op)) (E_A0 : Exa Z h0 (A 0) "com/example/quorumstone/quorumstone/check/Relaxation") (P1 : Vv Z h0 (A 1) .int (2 : Int32) [(.int s0), (.int s1)] (.int 0)) (P7 : Vv Z h0 (A 7) .int (6 : Int32) [(.int x0), (.int x1), (.int (-1)), (.int (-1)), (.int y0), (.int y1)] (.int 0)) (P14 : Vv Z h0 (A 14) .double (2 : Int32) [(.double (FP.l2d M0)), (.double (FP.l2d M1))] (.double 0)) (P4 : Vv Z h0 (A 4) .int (2 : Int32) [(.int a), (.int b)] (.int 0)) (hM0 : 0 ≤ M0.toInt ∧ M0.toInt ≤ s0.toInt) (hM1 : 0 ≤ M1.toInt ∧ M1.toInt ≤ s1.toInt) (ha : B01 a) (hb : B01 b) (hba : ¬ sel a x0 x1 < 0) :
    Mt l (⟨"com/example/quorumstone/quorumstone/check/Relaxation", "price", "(I)I"⟩ : MethodName) prog_8_method_15_code 12 (some .int) ws (rmm 2 0 0 60) #[(.ref (A 0)), (.int 1)] Z h0 (QPr1n Z A pp cc wk ps op s0 s1 x0 x1 y0 y1 M0 M1 a b h0 n0) 0 0 := by
  refine own_body n0 (plainFor_of_name pn_16) hw (fun m => ef_Pr1n m  A) ?_
  intro p ev s m below meth c s₁ Bd hZ hx hby hml hown X0 eh0 N0 w
  obtain ⟨k_A1, V_A1⟩ := P1
  obtain ⟨k_A7, V_A7⟩ := P7
  obtain ⟨k_A14, V_A14⟩ := P14
  obtain ⟨k_A4, V_A4⟩ := P4
  have nn_A1 : (A 1) ∉ [(A 0)] := (nnA D 1 [0] rfl)
  have nn_A7 : (A 7) ∉ [(A 0)] := (nnA D 7 [0] rfl)
  have nn_A14 : (A 14) ∉ [(A 0)] := (nnA D 14 [0] rfl)
  have nn_A4 : (A 4) ∉ [(A 0)] := (nnA D 4 [0] rfl)
  have LA := own_LA hw
  have K := Keep.refl h0 [(A 0)]
  show GolF _ _ _ _ _ _ _ s₁ m 0 #[vr (A 0), vi 1, uu, uu, uu, uu, uu, uu, uu, uu, uu, uu] []
  refine Gol.aloadN X0 hx hby d16_0 1 rfl rfl rfl ?_
  refine Gol.iconst X0 hx hby d16_1 2 rfl (z := (0 : Int32)) rfl ?_
  refine Gol.putF X0 hx hby hZ hown (host := "") (Or.inl (w 123 _ rfl)) Via.refl eh0 (B_A0 25 _ _ _ rfl rfl) E_A0 (Or.inl (w 124 _ rfl)) (w 9 _ rfl) (ty := .int) (by decide) rfl rfl d16_2 5 rfl ?_
  intro T1 h1 X1 e1 W1
  have E_A0 := E_A0.wr W1
  have K := K.wr W1 (Or.inl (List.mem_of_getElem? (i := 0) rfl))
  have Zs := Nat.le_trans Zs (Keep.of_wr W1).1
  have B_A0 : FL Z h1 (A 0) (rxv A pp (0 : Int32) (0 : Int32) wk ps (3 : Int64) op) := B_A0.put LA (i0 := 25) rfl W1
  have N1 := Fr.snoc X1 N0 (G 0 rfl)
  refine Gol.iconst X1 hx hby d16_5 6 rfl (z := (-1 : Int32)) rfl ?_
  refine Gol.istoreN X1 hx hby d16_6 7 rfl (l' := #[vr (A 0), vi 1, vi (-1), uu, uu, uu, uu, uu, uu, uu, uu, uu]) rfl ?_
  refine Gol.ldc2Double X1 hx hby hZ hown d16_7 10 rfl (w 131 _ rfl) ?_
  refine Gol.dstoreN X1 hx hby d16_10 11 rfl (l' := #[vr (A 0), vi 1, vi (-1), vd 4472406533629990549, ss, uu, uu, uu, uu, uu, uu, uu]) rfl ?_
  refine own_rows l Z a0 hw A pp (0 : Int32) wk ps op s0 s1 x0 x1 y0 y1 (1 : Int32) M0 M1 _ n0 Zs B_A0 E_A0 ⟨_, (V_A1.keep K nn_A1)⟩ ⟨_, (V_A7.keep K nn_A7)⟩ ⟨_, (V_A14.keep K nn_A14)⟩ hM0 hM1 X1 hx hby hZ hown hml e1 N1 ?_
  intro T2 L2 zp2 zs2 X2 N2 e2
  show GolF _ _ _ _ _ _ _ T2 m 172 #[vr (A 0), vi 1, vi (-1), vd 4472406533629990549, ss, vi 2, vi 3, vi 5, vd zp2, ss, vd zs2, ss] []
  refine Gol.fB X2 hx hby hZ hown (w 125 _ rfl) e2 B_A0 26 d16_172 d16_173 176 rfl rfl rfl rfl ?_
  intro T3 X3 e3
  refine Gol.istore X3 hx hby d16_176 178 rfl (l' := #[vr (A 0), vi 1, vi (-1), vd 4472406533629990549, ss, vi 0, vi 3, vi 5, vd zp2, ss, vd zs2, ss]) rfl ?_
  refine Gol.iconst X3 hx hby d16_178 179 rfl (z := (0 : Int32)) rfl ?_
  refine Gol.istore X3 hx hby d16_179 181 rfl (l' := #[vr (A 0), vi 1, vi (-1), vd 4472406533629990549, ss, vi 0, vi 0, vi 5, vd zp2, ss, vd zs2, ss]) rfl ?_
  refine Gol.iload X3 hx hby d16_181 183 rfl rfl ?_
  refine Gol.iloadN X3 hx hby d16_183 184 rfl rfl ?_
  refine Gol.icmpNo X3 hx hby d16_184 187 rfl (tlt (by decide : (0 : Int32) < (1 : Int32))).2.1 ?_
  refine Gol.iload X3 hx hby d16_187 189 rfl rfl ?_
  refine Gol.fB X3 hx hby hZ hown (w 34 _ rfl) e3 B_A0 5 d16_189 d16_190 193 rfl rfl rfl rfl ?_
  intro T4 X4 e4
  refine Gol.dia (S' := (T4.setTop (mkF m 200 #[vr (A 0), vi 1, vi (-1), vd 4472406533629990549, ss, vi 0, vi 0, vi 5, vd zp2, ss, vd zs2, ss] []))) ?_ ?_
  · intro k
    by_cases hc193_5 : (0 : Int32) < pp
    · skip
      refine Gol.icmpYes X4 hx hby d16_193 200 (by decide) (tlt hc193_5).1 ?_
      exact k
    · skip
      refine Gol.icmpNo X4 hx hby d16_193 196 rfl (flt hc193_5).1 ?_
      refine Gol.iloadN X4 hx hby d16_196 197 rfl rfl ?_
      refine Gol.ifNo X4 hx hby d16_197 200 rfl ((if0 _ _).trans (tlt (by decide : (-1 : Int32) < (0 : Int32))).2.1) ?_
      exact k
  show GolF _ _ _ _ _ _ _ T4 m 200 #[vr (A 0), vi 1, vi (-1), vd 4472406533629990549, ss, vi 0, vi 0, vi 5, vd zp2, ss, vd zs2, ss] []
  refine Gol.fB X4 hx hby hZ hown (w 44 _ rfl) e4 B_A0 10 d16_200 d16_201 204 rfl rfl rfl rfl ?_
  intro T6 X6 e6
  refine Gol.iload X6 hx hby d16_204 206 rfl rfl ?_
  refine Gol.iaload X6 hx hby hZ e6 (V_A4.keep K nn_A4) d16_206 207 rfl ⟨by decide, by decide⟩ (v := a) rfl ?_
  refine Gol.istore X6 hx hby d16_207 209 rfl (l' := #[vr (A 0), vi 1, vi (-1), vd 4472406533629990549, ss, vi 0, vi 0, vi a, vd zp2, ss, vd zs2, ss]) rfl ?_
  refine Gol.fB X6 hx hby hZ hown (w 67 _ rfl) e6 B_A0 14 d16_209 d16_210 213 rfl rfl rfl rfl ?_
  intro T7 X7 e7
  refine Gol.iload X7 hx hby d16_213 215 rfl rfl ?_
  refine Gol.iaload X7 hx hby hZ e7 (V_A7.keep K nn_A7) d16_215 216 rfl (own_in6 ha) (v := (sel a x0 x1)) (own_rI ha) ?_
  refine Gol.ifYes X7 hx hby d16_216 316 (by decide) ((if0 _ _).trans (flt hba).2.1) ?_
  refine Gol.iload X7 hx hby d16_316 318 rfl rfl ?_
  refine Gol.iconst X7 hx hby d16_318 319 rfl (z := (1 : Int32)) rfl ?_
  refine Gol.iadd X7 hx hby d16_319 320 rfl (z := (1 : Int32)) rfl ?_
  refine Gol.iloadN X7 hx hby d16_320 321 rfl rfl ?_
  refine Gol.icmpYes X7 hx hby d16_321 331 (by decide) (flt (by decide : ¬ ((1 : Int32) < (1 : Int32)))).2.1 ?_
  refine Gol.iconst X7 hx hby d16_331 332 rfl (z := (0 : Int32)) rfl ?_
  refine Gol.istore X7 hx hby d16_332 334 rfl (l' := #[vr (A 0), vi 1, vi (-1), vd 4472406533629990549, ss, vi 0, vi 0, vi a, vd zp2, ss, vd zs2, ss]) rfl ?_
  refine Gol.iinc X7 hx hby d16_334 337 rfl rfl (l' := #[vr (A 0), vi 1, vi (-1), vd 4472406533629990549, ss, vi 0, vi 1, vi a, vd zp2, ss, vd zs2, ss]) rfl ?_
  refine Gol.goto X7 hx hby d16_337 181 (by decide) ?_
  refine Gol.iload X7 hx hby d16_181 183 rfl rfl ?_
  refine Gol.iloadN X7 hx hby d16_183 184 rfl rfl ?_
  refine Gol.icmpYes X7 hx hby d16_184 340 (by decide) (flt (by decide : ¬ ((1 : Int32) < (1 : Int32)))).2.1 ?_
  refine Gol.aloadN X7 hx hby d16_340 341 rfl rfl rfl ?_
  refine Gol.iload X7 hx hby d16_341 343 rfl rfl ?_
  refine Gol.putF X7 hx hby hZ hown (host := "") (Or.inl (w 125 _ rfl)) Via.refl e7 (B_A0 26 _ _ _ rfl rfl) E_A0 (Or.inl (w 126 _ rfl)) (w 9 _ rfl) (ty := .int) (by decide) rfl rfl d16_343 346 rfl ?_
  intro T8 h8 X8 e8 W8
  have K := K.wr W8 (Or.inl (List.mem_of_getElem? (i := 0) rfl))
  have B_A0 : FL Z h8 (A 0) (rxv A pp (0 : Int32) (0 : Int32) wk ps (3 : Int64) op) := B_A0.put LA (i0 := 26) rfl W8
  have N8 := Fr.snoc X8 N2 (G 0 rfl)
  refine Gol.iloadN X8 hx hby d16_346 347 rfl rfl ?_
  exact Gol.retI X8 hx hby Bd.returns Bd.notSynchronized d16_347 e8 ⟨rfl, N8, K, B_A0⟩ (by decide) (by decide)
theorem d16_324 : dc16 324 (.iload 5) 2 := by decide +kernel
theorem d16_326 : dc16 326 (.iconst 1) 1 := by decide +kernel
theorem d16_327 : dc16 327 .iadd 1 := by decide +kernel
theorem d16_328 : dc16 328 (.goto 4) 3 := by decide +kernel
theorem ef_Pr2f (m : MethodId)  (A : Nat → Addr) : entryFrame m #[(.ref (A 0)), (.int 2)] 12 = mkF m 0 #[vr (A 0), vi 2, uu, uu, uu, uu, uu, uu, uu, uu, uu, uu] [] := by first | (simp [entryFrame, mkF, argsToLocals, Value.category]; done) | rfl
abbrev QPr2f (Z : State) (A : Nat → Addr) (cc wk ps op s0 s1 x0 x1 y0 y1 : Int32) (M0 M1 : Int64) (a b nd0 nd1 tk0 tk1 dc0 dc1 : Int32) (c0 c1 c2 c3 c4 c5 c6 c7 q0 q1 q2 q3 q4 q5 q6 q7 : Value) (h0 : Heap) (n0 : Nat) (v : Option Value) (h : Heap) (L : List Loc) : Prop := v = some (.int a) ∧ Fr n0 L ∧ Keep h0 h [(A 0), (A 17), (A 18)] ∧ FL Z h (A 0) (rxv A (1 : Int32) (1 : Int32) (1 : Int32) (0 : Int32) ps (3 : Int64) op) ∧ Vv Z h (A 17) .int (8 : Int32) [(.int a), c1, c2, c3, c4, c5, c6, c7] (.int 0) ∧ Vv Z h (A 18) .double (8 : Int32) [(.double (FP.l2d (prf a nd0 nd1 tk0 tk1))), q1, q2, q3, q4, q5, q6, q7] (.double 0)
set_option maxRecDepth 65536 in
set_option maxHeartbeats 40000000 in
theorem rmPr2f (l : Launch) (Z : State) (a0 : Array Value) (hw : TW a0 Z) (ws : List Jvm.Cond) (A : Nat → Addr) (cc wk ps op s0 s1 x0 x1 y0 y1 : Int32) (M0 M1 : Int64) (a b nd0 nd1 tk0 tk1 dc0 dc1 : Int32) (c0 c1 c2 c3 c4 c5 c6 c7 q0 q1 q2 q3 q4 q5 q6 q7 : Value) (h0 : Heap) (n0 : Nat) (Zs : n0 ≤ h0.size) (D : DisA A) (G : FreA A n0) (B_A0 : FL Z h0 (A 0) (rxv A (1 : Int32) cc (0 : Int32) wk ps (3 : Int64) op)) (E_A0 : Exa Z h0 (A 0) "com/example/quorumstone/quorumstone/check/Relaxation") (P1 : Vv Z h0 (A 1) .int (2 : Int32) [(.int s0), (.int s1)] (.int 0)) (P7 : Vv Z h0 (A 7) .int (6 : Int32) [(.int x0), (.int x1), (.int (-1)), (.int (-1)), (.int y0), (.int y1)] (.int 0)) (P14 : Vv Z h0 (A 14) .double (2 : Int32) [(.double (FP.l2d M0)), (.double (FP.l2d M1))] (.double 0)) (P4 : Vv Z h0 (A 4) .int (2 : Int32) [(.int a), (.int b)] (.int 0)) (P2 : Vv Z h0 (A 2) .int (2 : Int32) [(.int nd0), (.int nd1)] (.int 0)) (P3 : Vv Z h0 (A 3) .int (2 : Int32) [(.int tk0), (.int tk1)] (.int 0)) (P5 : Vv Z h0 (A 5) .int (3 : Int32) [(.int 0), (.int 1), (.int 2)] (.int 0)) (P6 : Vv Z h0 (A 6) .int (2 : Int32) [(.int dc0), (.int dc1)] (.int 0)) (P17 : Vv Z h0 (A 17) .int (8 : Int32) [c0, c1, c2, c3, c4, c5, c6, c7] (.int 0)) (P18 : Vv Z h0 (A 18) .double (8 : Int32) [q0, q1, q2, q3, q4, q5, q6, q7] (.double 0)) (hM0 : 0 ≤ M0.toInt ∧ M0.toInt ≤ s0.toInt) (hM1 : 0 ≤ M1.toInt ∧ M1.toInt ≤ s1.toInt) (ha : B01 a) (hb : B01 b) (hba :  sel a x0 x1 < 0) (hdc0 : B01 dc0) (hdc1 : B01 dc1) (hma : sel (sel a dc0 dc1) (FP.l2d M0) (FP.l2d M1) = 0) (hpa : 0 < (prf a nd0 nd1 tk0 tk1).toInt) :
    Mt l (⟨"com/example/quorumstone/quorumstone/check/Relaxation", "price", "(I)I"⟩ : MethodName) prog_8_method_15_code 12 (some .int) ws (rmm 2 0 0 60) #[(.ref (A 0)), (.int 2)] Z h0 (QPr2f Z A cc wk ps op s0 s1 x0 x1 y0 y1 M0 M1 a b nd0 nd1 tk0 tk1 dc0 dc1 c0 c1 c2 c3 c4 c5 c6 c7 q0 q1 q2 q3 q4 q5 q6 q7 h0 n0) 0 0 := by
  refine own_body n0 (plainFor_of_name pn_16) hw (fun m => ef_Pr2f m  A) ?_
  intro p ev s m below meth c s₁ Bd hZ hx hby hml hown X0 eh0 N0 w
  obtain ⟨k_A1, V_A1⟩ := P1
  obtain ⟨k_A7, V_A7⟩ := P7
  obtain ⟨k_A14, V_A14⟩ := P14
  obtain ⟨k_A4, V_A4⟩ := P4
  obtain ⟨k_A2, V_A2⟩ := P2
  obtain ⟨k_A3, V_A3⟩ := P3
  obtain ⟨k_A5, V_A5⟩ := P5
  obtain ⟨k_A6, V_A6⟩ := P6
  obtain ⟨k_A17, V_A17⟩ := P17
  obtain ⟨k_A18, V_A18⟩ := P18
  have nn_A1 : (A 1) ∉ [(A 0), (A 17), (A 18)] := (nnA D 1 [0, 17, 18] rfl)
  have nn_A7 : (A 7) ∉ [(A 0), (A 17), (A 18)] := (nnA D 7 [0, 17, 18] rfl)
  have nn_A14 : (A 14) ∉ [(A 0), (A 17), (A 18)] := (nnA D 14 [0, 17, 18] rfl)
  have nn_A4 : (A 4) ∉ [(A 0), (A 17), (A 18)] := (nnA D 4 [0, 17, 18] rfl)
  have nn_A2 : (A 2) ∉ [(A 0), (A 17), (A 18)] := (nnA D 2 [0, 17, 18] rfl)
  have nn_A3 : (A 3) ∉ [(A 0), (A 17), (A 18)] := (nnA D 3 [0, 17, 18] rfl)
  have nn_A5 : (A 5) ∉ [(A 0), (A 17), (A 18)] := (nnA D 5 [0, 17, 18] rfl)
  have nn_A6 : (A 6) ∉ [(A 0), (A 17), (A 18)] := (nnA D 6 [0, 17, 18] rfl)
  have LA := own_LA hw
  have K := Keep.refl h0 [(A 0), (A 17), (A 18)]
  show GolF _ _ _ _ _ _ _ s₁ m 0 #[vr (A 0), vi 2, uu, uu, uu, uu, uu, uu, uu, uu, uu, uu] []
  refine Gol.aloadN X0 hx hby d16_0 1 rfl rfl rfl ?_
  refine Gol.iconst X0 hx hby d16_1 2 rfl (z := (0 : Int32)) rfl ?_
  refine Gol.putF X0 hx hby hZ hown (host := "") (Or.inl (w 123 _ rfl)) Via.refl eh0 (B_A0 25 _ _ _ rfl rfl) E_A0 (Or.inl (w 124 _ rfl)) (w 9 _ rfl) (ty := .int) (by decide) rfl rfl d16_2 5 rfl ?_
  intro T1 h1 X1 e1 W1
  have E_A0 := E_A0.wr W1
  have V_A17 := V_A17.other W1 (D 17 0 rfl)
  have V_A18 := V_A18.other W1 (D 18 0 rfl)
  have K := K.wr W1 (Or.inl (List.mem_of_getElem? (i := 0) rfl))
  have Zs := Nat.le_trans Zs (Keep.of_wr W1).1
  have B_A0 : FL Z h1 (A 0) (rxv A (1 : Int32) (0 : Int32) (0 : Int32) wk ps (3 : Int64) op) := B_A0.put LA (i0 := 25) rfl W1
  have N1 := Fr.snoc X1 N0 (G 0 rfl)
  refine Gol.iconst X1 hx hby d16_5 6 rfl (z := (-1 : Int32)) rfl ?_
  refine Gol.istoreN X1 hx hby d16_6 7 rfl (l' := #[vr (A 0), vi 2, vi (-1), uu, uu, uu, uu, uu, uu, uu, uu, uu]) rfl ?_
  refine Gol.ldc2Double X1 hx hby hZ hown d16_7 10 rfl (w 131 _ rfl) ?_
  refine Gol.dstoreN X1 hx hby d16_10 11 rfl (l' := #[vr (A 0), vi 2, vi (-1), vd 4472406533629990549, ss, uu, uu, uu, uu, uu, uu, uu]) rfl ?_
  refine own_rows l Z a0 hw A (1 : Int32) (0 : Int32) wk ps op s0 s1 x0 x1 y0 y1 (2 : Int32) M0 M1 _ n0 Zs B_A0 E_A0 ⟨_, (V_A1.keep K nn_A1)⟩ ⟨_, (V_A7.keep K nn_A7)⟩ ⟨_, (V_A14.keep K nn_A14)⟩ hM0 hM1 X1 hx hby hZ hown hml e1 N1 ?_
  intro T2 L2 zp2 zs2 X2 N2 e2
  show GolF _ _ _ _ _ _ _ T2 m 172 #[vr (A 0), vi 2, vi (-1), vd 4472406533629990549, ss, vi 2, vi 3, vi 5, vd zp2, ss, vd zs2, ss] []
  refine Gol.fB X2 hx hby hZ hown (w 125 _ rfl) e2 B_A0 26 d16_172 d16_173 176 rfl rfl rfl rfl ?_
  intro T3 X3 e3
  refine Gol.istore X3 hx hby d16_176 178 rfl (l' := #[vr (A 0), vi 2, vi (-1), vd 4472406533629990549, ss, vi 0, vi 3, vi 5, vd zp2, ss, vd zs2, ss]) rfl ?_
  refine Gol.iconst X3 hx hby d16_178 179 rfl (z := (0 : Int32)) rfl ?_
  refine Gol.istore X3 hx hby d16_179 181 rfl (l' := #[vr (A 0), vi 2, vi (-1), vd 4472406533629990549, ss, vi 0, vi 0, vi 5, vd zp2, ss, vd zs2, ss]) rfl ?_
  refine Gol.iload X3 hx hby d16_181 183 rfl rfl ?_
  refine Gol.iloadN X3 hx hby d16_183 184 rfl rfl ?_
  refine Gol.icmpNo X3 hx hby d16_184 187 rfl (tlt (by decide : (0 : Int32) < (2 : Int32))).2.1 ?_
  refine Gol.iload X3 hx hby d16_187 189 rfl rfl ?_
  refine Gol.fB X3 hx hby hZ hown (w 34 _ rfl) e3 B_A0 5 d16_189 d16_190 193 rfl rfl rfl rfl ?_
  intro T4 X4 e4
  refine Gol.icmpYes X4 hx hby d16_193 200 (by decide) (tlt (by decide : (0 : Int32) < (1 : Int32))).1 ?_
  refine Gol.fB X4 hx hby hZ hown (w 44 _ rfl) e4 B_A0 10 d16_200 d16_201 204 rfl rfl rfl rfl ?_
  intro T5 X5 e5
  refine Gol.iload X5 hx hby d16_204 206 rfl rfl ?_
  refine Gol.iaload X5 hx hby hZ e5 (V_A4.keep K nn_A4) d16_206 207 rfl ⟨by decide, by decide⟩ (v := a) rfl ?_
  refine Gol.istore X5 hx hby d16_207 209 rfl (l' := #[vr (A 0), vi 2, vi (-1), vd 4472406533629990549, ss, vi 0, vi 0, vi a, vd zp2, ss, vd zs2, ss]) rfl ?_
  refine Gol.fB X5 hx hby hZ hown (w 67 _ rfl) e5 B_A0 14 d16_209 d16_210 213 rfl rfl rfl rfl ?_
  intro T6 X6 e6
  refine Gol.iload X6 hx hby d16_213 215 rfl rfl ?_
  refine Gol.iaload X6 hx hby hZ e6 (V_A7.keep K nn_A7) d16_215 216 rfl (own_in6 ha) (v := (sel a x0 x1)) (own_rI ha) ?_
  refine Gol.ifNo X6 hx hby d16_216 219 rfl ((if0 _ _).trans (tlt hba).2.1) ?_
  refine Gol.fB X6 hx hby hZ hown (w 40 _ rfl) e6 B_A0 8 d16_219 d16_220 223 rfl rfl rfl rfl ?_
  intro T7 X7 e7
  refine Gol.iload X7 hx hby d16_223 225 rfl rfl ?_
  refine Gol.iaload X7 hx hby hZ e7 (V_A2.keep K nn_A2) d16_225 226 rfl (own_in2 ha) (v := (sel a nd0 nd1)) (own_rI ha) ?_
  refine Gol.fB X7 hx hby hZ hown (w 42 _ rfl) e7 B_A0 9 d16_226 d16_227 230 rfl rfl rfl rfl ?_
  intro T8 X8 e8
  refine Gol.iload X8 hx hby d16_230 232 rfl rfl ?_
  refine Gol.iaload X8 hx hby hZ e8 (V_A3.keep K nn_A3) d16_232 233 rfl (own_in2 ha) (v := (sel a tk0 tk1)) (own_rI ha) ?_
  refine Gol.isub X8 hx hby d16_233 234 rfl rfl ?_
  refine Gol.i2d X8 hx hby d16_234 235 rfl (v := (FP.l2d (prf a nd0 nd1 tk0 tk1))) (own_i2p hpa) ?_
  refine Gol.dstore X8 hx hby d16_235 237 rfl (l' := #[vr (A 0), vi 2, vi (-1), vd 4472406533629990549, ss, vi 0, vi 0, vi a, vd (FP.l2d (prf a nd0 nd1 tk0 tk1)), ss, vd zs2, ss]) rfl ?_
  refine Gol.fB X8 hx hby hZ hown (w 48 _ rfl) e8 B_A0 12 d16_237 d16_238 241 rfl rfl rfl rfl ?_
  intro T9 X9 e9
  refine Gol.iload X9 hx hby d16_241 243 rfl rfl ?_
  refine Gol.iaload X9 hx hby hZ e9 (V_A5.keep K nn_A5) d16_243 244 rfl (own_in3 ha) (v := a) (own_ds0 ha) ?_
  refine Gol.istore X9 hx hby d16_244 246 rfl (l' := #[vr (A 0), vi 2, vi (-1), vd 4472406533629990549, ss, vi 0, vi 0, vi a, vd (FP.l2d (prf a nd0 nd1 tk0 tk1)), ss, vi a, uu]) rfl ?_
  refine Gol.iload X9 hx hby d16_246 248 rfl rfl ?_
  refine Gol.fB X9 hx hby hZ hown (w 48 _ rfl) e9 B_A0 12 d16_248 d16_249 252 rfl rfl rfl rfl ?_
  intro T10 X10 e10
  refine Gol.iload X10 hx hby d16_252 254 rfl rfl ?_
  refine Gol.iconst X10 hx hby d16_254 255 rfl (z := (1 : Int32)) rfl ?_
  refine Gol.iadd X10 hx hby d16_255 256 rfl rfl ?_
  refine Gol.iaload X10 hx hby hZ e10 (V_A5.keep K nn_A5) d16_256 257 rfl (own_in31 ha) (v := (a + (1 : Int32))) (own_ds1 ha) ?_
  refine Gol.icmpNo X10 hx hby d16_257 260 rfl (tlt (own_lts ha)).2.1 ?_
  refine Gol.dload X10 hx hby d16_260 262 rfl rfl ?_
  refine Gol.fB X10 hx hby hZ hown (w 77 _ rfl) e10 B_A0 19 d16_262 d16_263 266 rfl rfl rfl rfl ?_
  intro T11 X11 e11
  refine Gol.fB X11 hx hby hZ hown (w 57 _ rfl) e11 B_A0 13 d16_266 d16_267 270 rfl rfl rfl rfl ?_
  intro T12 X12 e12
  refine Gol.iload X12 hx hby d16_270 272 rfl rfl ?_
  refine Gol.iaload X12 hx hby hZ e12 (V_A6.keep K nn_A6) d16_272 273 rfl (own_in2 ha) (v := (sel a dc0 dc1)) (own_rI ha) ?_
  refine Gol.daload X12 hx hby hZ e12 (V_A14.keep K nn_A14) d16_273 274 rfl (own_in2 (own_selB hdc0 hdc1)) (v := (0 : UInt64)) ((own_rD (own_selB hdc0 hdc1)).trans (congrArg Value.double hma)) ?_
  refine Gol.dsub X12 hx hby d16_274 275 rfl (v := (FP.l2d (prf a nd0 nd1 tk0 tk1))) own_fin (own_sub0 (own_b53 _)) ?_
  refine Gol.dstore X12 hx hby d16_275 277 rfl (l' := #[vr (A 0), vi 2, vi (-1), vd 4472406533629990549, ss, vi 0, vi 0, vi a, vd (FP.l2d (prf a nd0 nd1 tk0 tk1)), ss, vi a, uu]) rfl ?_
  refine Gol.iinc X12 hx hby d16_277 280 rfl rfl (l' := #[vr (A 0), vi 2, vi (-1), vd 4472406533629990549, ss, vi 0, vi 0, vi a, vd (FP.l2d (prf a nd0 nd1 tk0 tk1)), ss, vi (a + (1 : Int32)), uu]) rfl ?_
  refine Gol.goto X12 hx hby d16_280 246 (by decide) ?_
  refine Gol.iload X12 hx hby d16_246 248 rfl rfl ?_
  refine Gol.fB X12 hx hby hZ hown (w 48 _ rfl) e12 B_A0 12 d16_248 d16_249 252 rfl rfl rfl rfl ?_
  intro T13 X13 e13
  refine Gol.iload X13 hx hby d16_252 254 rfl rfl ?_
  refine Gol.iconst X13 hx hby d16_254 255 rfl (z := (1 : Int32)) rfl ?_
  refine Gol.iadd X13 hx hby d16_255 256 rfl rfl ?_
  refine Gol.iaload X13 hx hby hZ e13 (V_A5.keep K nn_A5) d16_256 257 rfl (own_in31 ha) (v := (a + (1 : Int32))) (own_ds1 ha) ?_
  refine Gol.icmpYes X13 hx hby d16_257 283 (by decide) (flt Int32.lt_irrefl).2.1 ?_
  refine Gol.dload X13 hx hby d16_283 285 rfl rfl ?_
  refine Gol.ldc2Double X13 hx hby hZ hown d16_285 288 rfl (w 131 _ rfl) ?_
  refine Gol.dcmp X13 hx hby d16_288 289 rfl (v := (1 : Int32)) (own_cmpT hpa (own_b53 _) _) ?_
  refine Gol.ifNo X13 hx hby d16_289 292 rfl ((if0 _ _).trans (tlt (by decide : (0 : Int32) < (1 : Int32))).2.2.2) ?_
  refine Gol.aloadN X13 hx hby d16_292 293 rfl rfl rfl ?_
  refine Gol.iload X13 hx hby d16_293 295 rfl rfl ?_
  refine Gol.dload X13 hx hby d16_295 297 rfl rfl ?_
  refine Gol.callQ X13 hx hby hZ hown (z := zM0) 0 [(.int a), (.double (FP.l2d (prf a nd0 nd1 tk0 tk1)))] (a := (A 0)) (w 136 _ rfl) (w 137 _ rfl) (w 101 _ rfl) rfl (w 138 _ rfl) (w 10 _ rfl) (w 139 _ rfl) (by decide) E_A0 (rmOff0 l Z a0 hw [] a (FP.l2d (prf a nd0 nd1 tk0 tk1)) A (1 : Int32) (0 : Int32) wk ps (3 : Int64) op c0 c1 c2 c3 c4 c5 c6 c7 q0 q1 q2 q3 q4 q5 q6 q7 h1 n0 Zs D G B_A0 E_A0 ⟨_, V_A17⟩ ⟨_, V_A18⟩ ) (by decide) (by decide) e13 (by rw [hml]; rfl) (rest := []) (Nat.le_of_eq rfl) (by decide) (by decide) (lenOf pd_5 rfl) rfl d16_297 300 rfl ?_
  intro T14 v14 L14 X14 hQ14
  obtain ⟨rfl, Nq14, Kq14, B_A0, ⟨k14_A17, V_A17⟩, ⟨k14_A18, V_A18⟩⟩ := hQ14
  have N14 := Fr.app N2 Nq14
  have E_A0 := E_A0.keep Kq14
  have K := K.trans Kq14 (allS (Or.inl (List.mem_of_getElem? (i := 0) rfl)) (allS (Or.inl (List.mem_of_getElem? (i := 1) rfl)) (allS (Or.inl (List.mem_of_getElem? (i := 2) rfl)) all0)))
  show GolF _ _ _ _ _ _ _ T14 m 300 #[vr (A 0), vi 2, vi (-1), vd 4472406533629990549, ss, vi 0, vi 0, vi a, vd (FP.l2d (prf a nd0 nd1 tk0 tk1)), ss, vi (a + (1 : Int32)), uu] [(.int 1)]
  refine Gol.ifNo X14 hx hby d16_300 303 rfl ((if0 _ _).trans (feq (by decide : ¬ ((1 : Int32) = (0 : Int32)))).1) ?_
  refine Gol.dload X14 hx hby d16_303 305 rfl rfl ?_
  refine Gol.dloadN X14 hx hby d16_305 306 rfl rfl ?_
  refine Gol.dcmp X14 hx hby d16_306 307 rfl (v := (1 : Int32)) (own_cmpT hpa (own_b53 _) _) ?_
  refine Gol.ifNo X14 hx hby d16_307 310 rfl ((if0 _ _).trans (tlt (by decide : (0 : Int32) < (1 : Int32))).2.2.2) ?_
  refine Gol.iload X14 hx hby d16_310 312 rfl rfl ?_
  refine Gol.istoreN X14 hx hby d16_312 313 rfl (l' := #[vr (A 0), vi 2, vi a, vd 4472406533629990549, ss, vi 0, vi 0, vi a, vd (FP.l2d (prf a nd0 nd1 tk0 tk1)), ss, vi (a + (1 : Int32)), uu]) rfl ?_
  refine Gol.dload X14 hx hby d16_313 315 rfl rfl ?_
  refine Gol.dstoreN X14 hx hby d16_315 316 rfl (l' := #[vr (A 0), vi 2, vi a, vd (FP.l2d (prf a nd0 nd1 tk0 tk1)), ss, vi 0, vi 0, vi a, vd (FP.l2d (prf a nd0 nd1 tk0 tk1)), ss, vi (a + (1 : Int32)), uu]) rfl ?_
  refine Gol.iload X14 hx hby d16_316 318 rfl rfl ?_
  refine Gol.iconst X14 hx hby d16_318 319 rfl (z := (1 : Int32)) rfl ?_
  refine Gol.iadd X14 hx hby d16_319 320 rfl (z := (1 : Int32)) rfl ?_
  refine Gol.iloadN X14 hx hby d16_320 321 rfl rfl ?_
  refine Gol.icmpNo X14 hx hby d16_321 324 rfl (tlt (by decide : (1 : Int32) < (2 : Int32))).2.1 ?_
  refine Gol.iload X14 hx hby d16_324 326 rfl rfl ?_
  refine Gol.iconst X14 hx hby d16_326 327 rfl (z := (1 : Int32)) rfl ?_
  refine Gol.iadd X14 hx hby d16_327 328 rfl (z := (1 : Int32)) rfl ?_
  refine Gol.goto X14 hx hby d16_328 332 (by decide) ?_
  refine Gol.istore X14 hx hby d16_332 334 rfl (l' := #[vr (A 0), vi 2, vi a, vd (FP.l2d (prf a nd0 nd1 tk0 tk1)), ss, vi 1, vi 0, vi a, vd (FP.l2d (prf a nd0 nd1 tk0 tk1)), ss, vi (a + (1 : Int32)), uu]) rfl ?_
  refine Gol.iinc X14 hx hby d16_334 337 rfl rfl (l' := #[vr (A 0), vi 2, vi a, vd (FP.l2d (prf a nd0 nd1 tk0 tk1)), ss, vi 1, vi 1, vi a, vd (FP.l2d (prf a nd0 nd1 tk0 tk1)), ss, vi (a + (1 : Int32)), uu]) rfl ?_
  refine Gol.goto X14 hx hby d16_337 181 (by decide) ?_
  refine Gol.iload X14 hx hby d16_181 183 rfl rfl ?_
  refine Gol.iloadN X14 hx hby d16_183 184 rfl rfl ?_
  refine Gol.icmpNo X14 hx hby d16_184 187 rfl (tlt (by decide : (1 : Int32) < (2 : Int32))).2.1 ?_
  refine Gol.iload X14 hx hby d16_187 189 rfl rfl ?_
  refine Gol.fB X14 hx hby hZ hown (w 34 _ rfl) rfl B_A0 5 d16_189 d16_190 193 rfl rfl rfl rfl ?_
  intro T15 X15 e15
  refine Gol.icmpNo X15 hx hby d16_193 196 rfl (flt (by decide : ¬ ((1 : Int32) < (1 : Int32)))).1 ?_
  refine Gol.iloadN X15 hx hby d16_196 197 rfl rfl ?_
  refine Gol.ifYes X15 hx hby d16_197 340 (by decide) ((if0 _ _).trans (flt (own_in2 ha).1).2.1) ?_
  refine Gol.aloadN X15 hx hby d16_340 341 rfl rfl rfl ?_
  refine Gol.iload X15 hx hby d16_341 343 rfl rfl ?_
  refine Gol.putF X15 hx hby hZ hown (host := "") (Or.inl (w 125 _ rfl)) Via.refl e15 (B_A0 26 _ _ _ rfl rfl) E_A0 (Or.inl (w 126 _ rfl)) (w 9 _ rfl) (ty := .int) (by decide) rfl rfl d16_343 346 rfl ?_
  intro T16 h16 X16 e16 W16
  have V_A17 := V_A17.other W16 (D 17 0 rfl)
  have V_A18 := V_A18.other W16 (D 18 0 rfl)
  have K := K.wr W16 (Or.inl (List.mem_of_getElem? (i := 0) rfl))
  have B_A0 : FL Z h16 (A 0) (rxv A (1 : Int32) (1 : Int32) (1 : Int32) (0 : Int32) ps (3 : Int64) op) := B_A0.put LA (i0 := 26) rfl W16
  have N16 := Fr.snoc X16 N14 (G 0 rfl)
  refine Gol.iloadN X16 hx hby d16_346 347 rfl rfl ?_
  exact Gol.retI X16 hx hby Bd.returns Bd.notSynchronized d16_347 e16 ⟨rfl, N16, K, B_A0, ⟨_, V_A17⟩, ⟨_, V_A18⟩⟩ (by decide) (by decide)
theorem ef_Pr2s (m : MethodId)  (A : Nat → Addr) : entryFrame m #[(.ref (A 0)), (.int 2)] 12 = mkF m 0 #[vr (A 0), vi 2, uu, uu, uu, uu, uu, uu, uu, uu, uu, uu] [] := by first | (simp [entryFrame, mkF, argsToLocals, Value.category]; done) | rfl
abbrev QPr2s (Z : State) (A : Nat → Addr) (cc wk ps op s0 s1 x0 x1 y0 y1 : Int32) (M0 M1 : Int64) (a b nd0 nd1 tk0 tk1 dc0 dc1 : Int32) (c0 c1 c2 c3 c4 c5 c6 c7 q0 q1 q2 q3 q4 q5 q6 q7 : Value) (h0 : Heap) (n0 : Nat) (v : Option Value) (h : Heap) (L : List Loc) : Prop := v = some (.int b) ∧ Fr n0 L ∧ Keep h0 h [(A 0), (A 17), (A 18)] ∧ FL Z h (A 0) (rxv A (1 : Int32) (1 : Int32) (0 : Int32) (0 : Int32) ps (3 : Int64) op) ∧ Vv Z h (A 17) .int (8 : Int32) [(.int b), c1, c2, c3, c4, c5, c6, c7] (.int 0) ∧ Vv Z h (A 18) .double (8 : Int32) [(.double (FP.l2d (prf b nd0 nd1 tk0 tk1))), q1, q2, q3, q4, q5, q6, q7] (.double 0)
set_option maxRecDepth 65536 in
set_option maxHeartbeats 40000000 in
theorem rmPr2s (l : Launch) (Z : State) (a0 : Array Value) (hw : TW a0 Z) (ws : List Jvm.Cond) (A : Nat → Addr) (cc wk ps op s0 s1 x0 x1 y0 y1 : Int32) (M0 M1 : Int64) (a b nd0 nd1 tk0 tk1 dc0 dc1 : Int32) (c0 c1 c2 c3 c4 c5 c6 c7 q0 q1 q2 q3 q4 q5 q6 q7 : Value) (h0 : Heap) (n0 : Nat) (Zs : n0 ≤ h0.size) (D : DisA A) (G : FreA A n0) (B_A0 : FL Z h0 (A 0) (rxv A (1 : Int32) cc (1 : Int32) wk ps (3 : Int64) op)) (E_A0 : Exa Z h0 (A 0) "com/example/quorumstone/quorumstone/check/Relaxation") (P1 : Vv Z h0 (A 1) .int (2 : Int32) [(.int s0), (.int s1)] (.int 0)) (P7 : Vv Z h0 (A 7) .int (6 : Int32) [(.int x0), (.int x1), (.int (-1)), (.int (-1)), (.int y0), (.int y1)] (.int 0)) (P14 : Vv Z h0 (A 14) .double (2 : Int32) [(.double (FP.l2d M0)), (.double (FP.l2d M1))] (.double 0)) (P4 : Vv Z h0 (A 4) .int (2 : Int32) [(.int a), (.int b)] (.int 0)) (P2 : Vv Z h0 (A 2) .int (2 : Int32) [(.int nd0), (.int nd1)] (.int 0)) (P3 : Vv Z h0 (A 3) .int (2 : Int32) [(.int tk0), (.int tk1)] (.int 0)) (P5 : Vv Z h0 (A 5) .int (3 : Int32) [(.int 0), (.int 1), (.int 2)] (.int 0)) (P6 : Vv Z h0 (A 6) .int (2 : Int32) [(.int dc0), (.int dc1)] (.int 0)) (P17 : Vv Z h0 (A 17) .int (8 : Int32) [c0, c1, c2, c3, c4, c5, c6, c7] (.int 0)) (P18 : Vv Z h0 (A 18) .double (8 : Int32) [q0, q1, q2, q3, q4, q5, q6, q7] (.double 0)) (hM0 : 0 ≤ M0.toInt ∧ M0.toInt ≤ s0.toInt) (hM1 : 0 ≤ M1.toInt ∧ M1.toInt ≤ s1.toInt) (ha : B01 a) (hb : B01 b) (hbb :  sel b x0 x1 < 0) (hdc0 : B01 dc0) (hdc1 : B01 dc1) (hmb : sel (sel b dc0 dc1) (FP.l2d M0) (FP.l2d M1) = 0) (hpb : 0 < (prf b nd0 nd1 tk0 tk1).toInt) :
    Mt l (⟨"com/example/quorumstone/quorumstone/check/Relaxation", "price", "(I)I"⟩ : MethodName) prog_8_method_15_code 12 (some .int) ws (rmm 2 0 0 60) #[(.ref (A 0)), (.int 2)] Z h0 (QPr2s Z A cc wk ps op s0 s1 x0 x1 y0 y1 M0 M1 a b nd0 nd1 tk0 tk1 dc0 dc1 c0 c1 c2 c3 c4 c5 c6 c7 q0 q1 q2 q3 q4 q5 q6 q7 h0 n0) 0 0 := by
  refine own_body n0 (plainFor_of_name pn_16) hw (fun m => ef_Pr2s m  A) ?_
  intro p ev s m below meth c s₁ Bd hZ hx hby hml hown X0 eh0 N0 w
  obtain ⟨k_A1, V_A1⟩ := P1
  obtain ⟨k_A7, V_A7⟩ := P7
  obtain ⟨k_A14, V_A14⟩ := P14
  obtain ⟨k_A4, V_A4⟩ := P4
  obtain ⟨k_A2, V_A2⟩ := P2
  obtain ⟨k_A3, V_A3⟩ := P3
  obtain ⟨k_A5, V_A5⟩ := P5
  obtain ⟨k_A6, V_A6⟩ := P6
  obtain ⟨k_A17, V_A17⟩ := P17
  obtain ⟨k_A18, V_A18⟩ := P18
  have nn_A1 : (A 1) ∉ [(A 0), (A 17), (A 18)] := (nnA D 1 [0, 17, 18] rfl)
  have nn_A7 : (A 7) ∉ [(A 0), (A 17), (A 18)] := (nnA D 7 [0, 17, 18] rfl)
  have nn_A14 : (A 14) ∉ [(A 0), (A 17), (A 18)] := (nnA D 14 [0, 17, 18] rfl)
  have nn_A4 : (A 4) ∉ [(A 0), (A 17), (A 18)] := (nnA D 4 [0, 17, 18] rfl)
  have nn_A2 : (A 2) ∉ [(A 0), (A 17), (A 18)] := (nnA D 2 [0, 17, 18] rfl)
  have nn_A3 : (A 3) ∉ [(A 0), (A 17), (A 18)] := (nnA D 3 [0, 17, 18] rfl)
  have nn_A5 : (A 5) ∉ [(A 0), (A 17), (A 18)] := (nnA D 5 [0, 17, 18] rfl)
  have nn_A6 : (A 6) ∉ [(A 0), (A 17), (A 18)] := (nnA D 6 [0, 17, 18] rfl)
  have LA := own_LA hw
  have K := Keep.refl h0 [(A 0), (A 17), (A 18)]
  show GolF _ _ _ _ _ _ _ s₁ m 0 #[vr (A 0), vi 2, uu, uu, uu, uu, uu, uu, uu, uu, uu, uu] []
  refine Gol.aloadN X0 hx hby d16_0 1 rfl rfl rfl ?_
  refine Gol.iconst X0 hx hby d16_1 2 rfl (z := (0 : Int32)) rfl ?_
  refine Gol.putF X0 hx hby hZ hown (host := "") (Or.inl (w 123 _ rfl)) Via.refl eh0 (B_A0 25 _ _ _ rfl rfl) E_A0 (Or.inl (w 124 _ rfl)) (w 9 _ rfl) (ty := .int) (by decide) rfl rfl d16_2 5 rfl ?_
  intro T1 h1 X1 e1 W1
  have E_A0 := E_A0.wr W1
  have V_A17 := V_A17.other W1 (D 17 0 rfl)
  have V_A18 := V_A18.other W1 (D 18 0 rfl)
  have K := K.wr W1 (Or.inl (List.mem_of_getElem? (i := 0) rfl))
  have Zs := Nat.le_trans Zs (Keep.of_wr W1).1
  have B_A0 : FL Z h1 (A 0) (rxv A (1 : Int32) (0 : Int32) (1 : Int32) wk ps (3 : Int64) op) := B_A0.put LA (i0 := 25) rfl W1
  have N1 := Fr.snoc X1 N0 (G 0 rfl)
  refine Gol.iconst X1 hx hby d16_5 6 rfl (z := (-1 : Int32)) rfl ?_
  refine Gol.istoreN X1 hx hby d16_6 7 rfl (l' := #[vr (A 0), vi 2, vi (-1), uu, uu, uu, uu, uu, uu, uu, uu, uu]) rfl ?_
  refine Gol.ldc2Double X1 hx hby hZ hown d16_7 10 rfl (w 131 _ rfl) ?_
  refine Gol.dstoreN X1 hx hby d16_10 11 rfl (l' := #[vr (A 0), vi 2, vi (-1), vd 4472406533629990549, ss, uu, uu, uu, uu, uu, uu, uu]) rfl ?_
  refine own_rows l Z a0 hw A (1 : Int32) (1 : Int32) wk ps op s0 s1 x0 x1 y0 y1 (2 : Int32) M0 M1 _ n0 Zs B_A0 E_A0 ⟨_, (V_A1.keep K nn_A1)⟩ ⟨_, (V_A7.keep K nn_A7)⟩ ⟨_, (V_A14.keep K nn_A14)⟩ hM0 hM1 X1 hx hby hZ hown hml e1 N1 ?_
  intro T2 L2 zp2 zs2 X2 N2 e2
  show GolF _ _ _ _ _ _ _ T2 m 172 #[vr (A 0), vi 2, vi (-1), vd 4472406533629990549, ss, vi 2, vi 3, vi 5, vd zp2, ss, vd zs2, ss] []
  refine Gol.fB X2 hx hby hZ hown (w 125 _ rfl) e2 B_A0 26 d16_172 d16_173 176 rfl rfl rfl rfl ?_
  intro T3 X3 e3
  refine Gol.istore X3 hx hby d16_176 178 rfl (l' := #[vr (A 0), vi 2, vi (-1), vd 4472406533629990549, ss, vi 1, vi 3, vi 5, vd zp2, ss, vd zs2, ss]) rfl ?_
  refine Gol.iconst X3 hx hby d16_178 179 rfl (z := (0 : Int32)) rfl ?_
  refine Gol.istore X3 hx hby d16_179 181 rfl (l' := #[vr (A 0), vi 2, vi (-1), vd 4472406533629990549, ss, vi 1, vi 0, vi 5, vd zp2, ss, vd zs2, ss]) rfl ?_
  refine Gol.iload X3 hx hby d16_181 183 rfl rfl ?_
  refine Gol.iloadN X3 hx hby d16_183 184 rfl rfl ?_
  refine Gol.icmpNo X3 hx hby d16_184 187 rfl (tlt (by decide : (0 : Int32) < (2 : Int32))).2.1 ?_
  refine Gol.iload X3 hx hby d16_187 189 rfl rfl ?_
  refine Gol.fB X3 hx hby hZ hown (w 34 _ rfl) e3 B_A0 5 d16_189 d16_190 193 rfl rfl rfl rfl ?_
  intro T4 X4 e4
  refine Gol.icmpYes X4 hx hby d16_193 200 (by decide) (tlt (by decide : (0 : Int32) < (1 : Int32))).1 ?_
  refine Gol.fB X4 hx hby hZ hown (w 44 _ rfl) e4 B_A0 10 d16_200 d16_201 204 rfl rfl rfl rfl ?_
  intro T5 X5 e5
  refine Gol.iload X5 hx hby d16_204 206 rfl rfl ?_
  refine Gol.iaload X5 hx hby hZ e5 (V_A4.keep K nn_A4) d16_206 207 rfl ⟨by decide, by decide⟩ (v := b) rfl ?_
  refine Gol.istore X5 hx hby d16_207 209 rfl (l' := #[vr (A 0), vi 2, vi (-1), vd 4472406533629990549, ss, vi 1, vi 0, vi b, vd zp2, ss, vd zs2, ss]) rfl ?_
  refine Gol.fB X5 hx hby hZ hown (w 67 _ rfl) e5 B_A0 14 d16_209 d16_210 213 rfl rfl rfl rfl ?_
  intro T6 X6 e6
  refine Gol.iload X6 hx hby d16_213 215 rfl rfl ?_
  refine Gol.iaload X6 hx hby hZ e6 (V_A7.keep K nn_A7) d16_215 216 rfl (own_in6 hb) (v := (sel b x0 x1)) (own_rI hb) ?_
  refine Gol.ifNo X6 hx hby d16_216 219 rfl ((if0 _ _).trans (tlt hbb).2.1) ?_
  refine Gol.fB X6 hx hby hZ hown (w 40 _ rfl) e6 B_A0 8 d16_219 d16_220 223 rfl rfl rfl rfl ?_
  intro T7 X7 e7
  refine Gol.iload X7 hx hby d16_223 225 rfl rfl ?_
  refine Gol.iaload X7 hx hby hZ e7 (V_A2.keep K nn_A2) d16_225 226 rfl (own_in2 hb) (v := (sel b nd0 nd1)) (own_rI hb) ?_
  refine Gol.fB X7 hx hby hZ hown (w 42 _ rfl) e7 B_A0 9 d16_226 d16_227 230 rfl rfl rfl rfl ?_
  intro T8 X8 e8
  refine Gol.iload X8 hx hby d16_230 232 rfl rfl ?_
  refine Gol.iaload X8 hx hby hZ e8 (V_A3.keep K nn_A3) d16_232 233 rfl (own_in2 hb) (v := (sel b tk0 tk1)) (own_rI hb) ?_
  refine Gol.isub X8 hx hby d16_233 234 rfl rfl ?_
  refine Gol.i2d X8 hx hby d16_234 235 rfl (v := (FP.l2d (prf b nd0 nd1 tk0 tk1))) (own_i2p hpb) ?_
  refine Gol.dstore X8 hx hby d16_235 237 rfl (l' := #[vr (A 0), vi 2, vi (-1), vd 4472406533629990549, ss, vi 1, vi 0, vi b, vd (FP.l2d (prf b nd0 nd1 tk0 tk1)), ss, vd zs2, ss]) rfl ?_
  refine Gol.fB X8 hx hby hZ hown (w 48 _ rfl) e8 B_A0 12 d16_237 d16_238 241 rfl rfl rfl rfl ?_
  intro T9 X9 e9
  refine Gol.iload X9 hx hby d16_241 243 rfl rfl ?_
  refine Gol.iaload X9 hx hby hZ e9 (V_A5.keep K nn_A5) d16_243 244 rfl (own_in3 hb) (v := b) (own_ds0 hb) ?_
  refine Gol.istore X9 hx hby d16_244 246 rfl (l' := #[vr (A 0), vi 2, vi (-1), vd 4472406533629990549, ss, vi 1, vi 0, vi b, vd (FP.l2d (prf b nd0 nd1 tk0 tk1)), ss, vi b, uu]) rfl ?_
  refine Gol.iload X9 hx hby d16_246 248 rfl rfl ?_
  refine Gol.fB X9 hx hby hZ hown (w 48 _ rfl) e9 B_A0 12 d16_248 d16_249 252 rfl rfl rfl rfl ?_
  intro T10 X10 e10
  refine Gol.iload X10 hx hby d16_252 254 rfl rfl ?_
  refine Gol.iconst X10 hx hby d16_254 255 rfl (z := (1 : Int32)) rfl ?_
  refine Gol.iadd X10 hx hby d16_255 256 rfl rfl ?_
  refine Gol.iaload X10 hx hby hZ e10 (V_A5.keep K nn_A5) d16_256 257 rfl (own_in31 hb) (v := (b + (1 : Int32))) (own_ds1 hb) ?_
  refine Gol.icmpNo X10 hx hby d16_257 260 rfl (tlt (own_lts hb)).2.1 ?_
  refine Gol.dload X10 hx hby d16_260 262 rfl rfl ?_
  refine Gol.fB X10 hx hby hZ hown (w 77 _ rfl) e10 B_A0 19 d16_262 d16_263 266 rfl rfl rfl rfl ?_
  intro T11 X11 e11
  refine Gol.fB X11 hx hby hZ hown (w 57 _ rfl) e11 B_A0 13 d16_266 d16_267 270 rfl rfl rfl rfl ?_
  intro T12 X12 e12
  refine Gol.iload X12 hx hby d16_270 272 rfl rfl ?_
  refine Gol.iaload X12 hx hby hZ e12 (V_A6.keep K nn_A6) d16_272 273 rfl (own_in2 hb) (v := (sel b dc0 dc1)) (own_rI hb) ?_
  refine Gol.daload X12 hx hby hZ e12 (V_A14.keep K nn_A14) d16_273 274 rfl (own_in2 (own_selB hdc0 hdc1)) (v := (0 : UInt64)) ((own_rD (own_selB hdc0 hdc1)).trans (congrArg Value.double hmb)) ?_
  refine Gol.dsub X12 hx hby d16_274 275 rfl (v := (FP.l2d (prf b nd0 nd1 tk0 tk1))) own_fin (own_sub0 (own_b53 _)) ?_
  refine Gol.dstore X12 hx hby d16_275 277 rfl (l' := #[vr (A 0), vi 2, vi (-1), vd 4472406533629990549, ss, vi 1, vi 0, vi b, vd (FP.l2d (prf b nd0 nd1 tk0 tk1)), ss, vi b, uu]) rfl ?_
  refine Gol.iinc X12 hx hby d16_277 280 rfl rfl (l' := #[vr (A 0), vi 2, vi (-1), vd 4472406533629990549, ss, vi 1, vi 0, vi b, vd (FP.l2d (prf b nd0 nd1 tk0 tk1)), ss, vi (b + (1 : Int32)), uu]) rfl ?_
  refine Gol.goto X12 hx hby d16_280 246 (by decide) ?_
  refine Gol.iload X12 hx hby d16_246 248 rfl rfl ?_
  refine Gol.fB X12 hx hby hZ hown (w 48 _ rfl) e12 B_A0 12 d16_248 d16_249 252 rfl rfl rfl rfl ?_
  intro T13 X13 e13
  refine Gol.iload X13 hx hby d16_252 254 rfl rfl ?_
  refine Gol.iconst X13 hx hby d16_254 255 rfl (z := (1 : Int32)) rfl ?_
  refine Gol.iadd X13 hx hby d16_255 256 rfl rfl ?_
  refine Gol.iaload X13 hx hby hZ e13 (V_A5.keep K nn_A5) d16_256 257 rfl (own_in31 hb) (v := (b + (1 : Int32))) (own_ds1 hb) ?_
  refine Gol.icmpYes X13 hx hby d16_257 283 (by decide) (flt Int32.lt_irrefl).2.1 ?_
  refine Gol.dload X13 hx hby d16_283 285 rfl rfl ?_
  refine Gol.ldc2Double X13 hx hby hZ hown d16_285 288 rfl (w 131 _ rfl) ?_
  refine Gol.dcmp X13 hx hby d16_288 289 rfl (v := (1 : Int32)) (own_cmpT hpb (own_b53 _) _) ?_
  refine Gol.ifNo X13 hx hby d16_289 292 rfl ((if0 _ _).trans (tlt (by decide : (0 : Int32) < (1 : Int32))).2.2.2) ?_
  refine Gol.aloadN X13 hx hby d16_292 293 rfl rfl rfl ?_
  refine Gol.iload X13 hx hby d16_293 295 rfl rfl ?_
  refine Gol.dload X13 hx hby d16_295 297 rfl rfl ?_
  refine Gol.callQ X13 hx hby hZ hown (z := zM0) 0 [(.int b), (.double (FP.l2d (prf b nd0 nd1 tk0 tk1)))] (a := (A 0)) (w 136 _ rfl) (w 137 _ rfl) (w 101 _ rfl) rfl (w 138 _ rfl) (w 10 _ rfl) (w 139 _ rfl) (by decide) E_A0 (rmOff0 l Z a0 hw [] b (FP.l2d (prf b nd0 nd1 tk0 tk1)) A (1 : Int32) (1 : Int32) wk ps (3 : Int64) op c0 c1 c2 c3 c4 c5 c6 c7 q0 q1 q2 q3 q4 q5 q6 q7 h1 n0 Zs D G B_A0 E_A0 ⟨_, V_A17⟩ ⟨_, V_A18⟩ ) (by decide) (by decide) e13 (by rw [hml]; rfl) (rest := []) (Nat.le_of_eq rfl) (by decide) (by decide) (lenOf pd_5 rfl) rfl d16_297 300 rfl ?_
  intro T14 v14 L14 X14 hQ14
  obtain ⟨rfl, Nq14, Kq14, B_A0, ⟨k14_A17, V_A17⟩, ⟨k14_A18, V_A18⟩⟩ := hQ14
  have N14 := Fr.app N2 Nq14
  have E_A0 := E_A0.keep Kq14
  have K := K.trans Kq14 (allS (Or.inl (List.mem_of_getElem? (i := 0) rfl)) (allS (Or.inl (List.mem_of_getElem? (i := 1) rfl)) (allS (Or.inl (List.mem_of_getElem? (i := 2) rfl)) all0)))
  show GolF _ _ _ _ _ _ _ T14 m 300 #[vr (A 0), vi 2, vi (-1), vd 4472406533629990549, ss, vi 1, vi 0, vi b, vd (FP.l2d (prf b nd0 nd1 tk0 tk1)), ss, vi (b + (1 : Int32)), uu] [(.int 1)]
  refine Gol.ifNo X14 hx hby d16_300 303 rfl ((if0 _ _).trans (feq (by decide : ¬ ((1 : Int32) = (0 : Int32)))).1) ?_
  refine Gol.dload X14 hx hby d16_303 305 rfl rfl ?_
  refine Gol.dloadN X14 hx hby d16_305 306 rfl rfl ?_
  refine Gol.dcmp X14 hx hby d16_306 307 rfl (v := (1 : Int32)) (own_cmpT hpb (own_b53 _) _) ?_
  refine Gol.ifNo X14 hx hby d16_307 310 rfl ((if0 _ _).trans (tlt (by decide : (0 : Int32) < (1 : Int32))).2.2.2) ?_
  refine Gol.iload X14 hx hby d16_310 312 rfl rfl ?_
  refine Gol.istoreN X14 hx hby d16_312 313 rfl (l' := #[vr (A 0), vi 2, vi b, vd 4472406533629990549, ss, vi 1, vi 0, vi b, vd (FP.l2d (prf b nd0 nd1 tk0 tk1)), ss, vi (b + (1 : Int32)), uu]) rfl ?_
  refine Gol.dload X14 hx hby d16_313 315 rfl rfl ?_
  refine Gol.dstoreN X14 hx hby d16_315 316 rfl (l' := #[vr (A 0), vi 2, vi b, vd (FP.l2d (prf b nd0 nd1 tk0 tk1)), ss, vi 1, vi 0, vi b, vd (FP.l2d (prf b nd0 nd1 tk0 tk1)), ss, vi (b + (1 : Int32)), uu]) rfl ?_
  refine Gol.iload X14 hx hby d16_316 318 rfl rfl ?_
  refine Gol.iconst X14 hx hby d16_318 319 rfl (z := (1 : Int32)) rfl ?_
  refine Gol.iadd X14 hx hby d16_319 320 rfl (z := (2 : Int32)) rfl ?_
  refine Gol.iloadN X14 hx hby d16_320 321 rfl rfl ?_
  refine Gol.icmpYes X14 hx hby d16_321 331 (by decide) (flt (by decide : ¬ ((2 : Int32) < (2 : Int32)))).2.1 ?_
  refine Gol.iconst X14 hx hby d16_331 332 rfl (z := (0 : Int32)) rfl ?_
  refine Gol.istore X14 hx hby d16_332 334 rfl (l' := #[vr (A 0), vi 2, vi b, vd (FP.l2d (prf b nd0 nd1 tk0 tk1)), ss, vi 0, vi 0, vi b, vd (FP.l2d (prf b nd0 nd1 tk0 tk1)), ss, vi (b + (1 : Int32)), uu]) rfl ?_
  refine Gol.iinc X14 hx hby d16_334 337 rfl rfl (l' := #[vr (A 0), vi 2, vi b, vd (FP.l2d (prf b nd0 nd1 tk0 tk1)), ss, vi 0, vi 1, vi b, vd (FP.l2d (prf b nd0 nd1 tk0 tk1)), ss, vi (b + (1 : Int32)), uu]) rfl ?_
  refine Gol.goto X14 hx hby d16_337 181 (by decide) ?_
  refine Gol.iload X14 hx hby d16_181 183 rfl rfl ?_
  refine Gol.iloadN X14 hx hby d16_183 184 rfl rfl ?_
  refine Gol.icmpNo X14 hx hby d16_184 187 rfl (tlt (by decide : (1 : Int32) < (2 : Int32))).2.1 ?_
  refine Gol.iload X14 hx hby d16_187 189 rfl rfl ?_
  refine Gol.fB X14 hx hby hZ hown (w 34 _ rfl) rfl B_A0 5 d16_189 d16_190 193 rfl rfl rfl rfl ?_
  intro T15 X15 e15
  refine Gol.icmpNo X15 hx hby d16_193 196 rfl (flt (by decide : ¬ ((1 : Int32) < (1 : Int32)))).1 ?_
  refine Gol.iloadN X15 hx hby d16_196 197 rfl rfl ?_
  refine Gol.ifYes X15 hx hby d16_197 340 (by decide) ((if0 _ _).trans (flt (own_in2 hb).1).2.1) ?_
  refine Gol.aloadN X15 hx hby d16_340 341 rfl rfl rfl ?_
  refine Gol.iload X15 hx hby d16_341 343 rfl rfl ?_
  refine Gol.putF X15 hx hby hZ hown (host := "") (Or.inl (w 125 _ rfl)) Via.refl e15 (B_A0 26 _ _ _ rfl rfl) E_A0 (Or.inl (w 126 _ rfl)) (w 9 _ rfl) (ty := .int) (by decide) rfl rfl d16_343 346 rfl ?_
  intro T16 h16 X16 e16 W16
  have V_A17 := V_A17.other W16 (D 17 0 rfl)
  have V_A18 := V_A18.other W16 (D 18 0 rfl)
  have K := K.wr W16 (Or.inl (List.mem_of_getElem? (i := 0) rfl))
  have B_A0 : FL Z h16 (A 0) (rxv A (1 : Int32) (1 : Int32) (0 : Int32) (0 : Int32) ps (3 : Int64) op) := B_A0.put LA (i0 := 26) rfl W16
  have N16 := Fr.snoc X16 N14 (G 0 rfl)
  refine Gol.iloadN X16 hx hby d16_346 347 rfl rfl ?_
  exact Gol.retI X16 hx hby Bd.returns Bd.notSynchronized d16_347 e16 ⟨rfl, N16, K, B_A0, ⟨_, V_A17⟩, ⟨_, V_A18⟩⟩ (by decide) (by decide)
theorem ef_Pr2x (m : MethodId)  (A : Nat → Addr) : entryFrame m #[(.ref (A 0)), (.int 2)] 12 = mkF m 0 #[vr (A 0), vi 2, uu, uu, uu, uu, uu, uu, uu, uu, uu, uu] [] := by first | (simp [entryFrame, mkF, argsToLocals, Value.category]; done) | rfl
abbrev QPr2x (Z : State) (A : Nat → Addr) (cc wk ps op s0 s1 x0 x1 y0 y1 : Int32) (M0 M1 : Int64) (a b nd0 nd1 tk0 tk1 dc0 dc1 : Int32) (c0 c1 c2 c3 c4 c5 c6 c7 q0 q1 q2 q3 q4 q5 q6 q7 : Value) (h0 : Heap) (n0 : Nat) (v : Option Value) (h : Heap) (L : List Loc) : Prop := (∃ rz : Int32, v = some (.int rz) ∧ ((a = rz ∧ ¬ 0 < lcmpW (prf b nd0 nd1 tk0 tk1) (prf a nd0 nd1 tk0 tk1)) ∨ (b = rz ∧ 0 < lcmpW (prf b nd0 nd1 tk0 tk1) (prf a nd0 nd1 tk0 tk1)))) ∧ Fr n0 L ∧ Keep h0 h [(A 0), (A 17), (A 18)] ∧ (∃ wz : Int32, FL Z h (A 0) (rxv A (100 : Int32) (2 : Int32) (0 : Int32) wz ps (3 : Int64) op)) ∧ Vv Z h (A 17) .int (8 : Int32) [(.int a), (.int b), c2, c3, c4, c5, c6, c7] (.int 0) ∧ Vv Z h (A 18) .double (8 : Int32) [(.double (FP.l2d (prf a nd0 nd1 tk0 tk1))), (.double (FP.l2d (prf b nd0 nd1 tk0 tk1))), q2, q3, q4, q5, q6, q7] (.double 0)
set_option maxRecDepth 65536 in
set_option maxHeartbeats 40000000 in
theorem rmPr2x (l : Launch) (Z : State) (a0 : Array Value) (hw : TW a0 Z) (ws : List Jvm.Cond) (A : Nat → Addr) (cc wk ps op s0 s1 x0 x1 y0 y1 : Int32) (M0 M1 : Int64) (a b nd0 nd1 tk0 tk1 dc0 dc1 : Int32) (c0 c1 c2 c3 c4 c5 c6 c7 q0 q1 q2 q3 q4 q5 q6 q7 : Value) (h0 : Heap) (n0 : Nat) (Zs : n0 ≤ h0.size) (D : DisA A) (G : FreA A n0) (B_A0 : FL Z h0 (A 0) (rxv A (100 : Int32) cc (0 : Int32) wk ps (3 : Int64) op)) (E_A0 : Exa Z h0 (A 0) "com/example/quorumstone/quorumstone/check/Relaxation") (P1 : Vv Z h0 (A 1) .int (2 : Int32) [(.int s0), (.int s1)] (.int 0)) (P7 : Vv Z h0 (A 7) .int (6 : Int32) [(.int x0), (.int x1), (.int (-1)), (.int (-1)), (.int y0), (.int y1)] (.int 0)) (P14 : Vv Z h0 (A 14) .double (2 : Int32) [(.double (FP.l2d M0)), (.double (FP.l2d M1))] (.double 0)) (P4 : Vv Z h0 (A 4) .int (2 : Int32) [(.int a), (.int b)] (.int 0)) (P2 : Vv Z h0 (A 2) .int (2 : Int32) [(.int nd0), (.int nd1)] (.int 0)) (P3 : Vv Z h0 (A 3) .int (2 : Int32) [(.int tk0), (.int tk1)] (.int 0)) (P5 : Vv Z h0 (A 5) .int (3 : Int32) [(.int 0), (.int 1), (.int 2)] (.int 0)) (P6 : Vv Z h0 (A 6) .int (2 : Int32) [(.int dc0), (.int dc1)] (.int 0)) (P17 : Vv Z h0 (A 17) .int (8 : Int32) [c0, c1, c2, c3, c4, c5, c6, c7] (.int 0)) (P18 : Vv Z h0 (A 18) .double (8 : Int32) [q0, q1, q2, q3, q4, q5, q6, q7] (.double 0)) (hM0 : 0 ≤ M0.toInt ∧ M0.toInt ≤ s0.toInt) (hM1 : 0 ≤ M1.toInt ∧ M1.toInt ≤ s1.toInt) (ha : B01 a) (hb : B01 b) (hba :  sel a x0 x1 < 0) (hbb :  sel b x0 x1 < 0) (hdc0 : B01 dc0) (hdc1 : B01 dc1) (hma : sel (sel a dc0 dc1) (FP.l2d M0) (FP.l2d M1) = 0) (hmb : sel (sel b dc0 dc1) (FP.l2d M0) (FP.l2d M1) = 0) (hpa : 0 < (prf a nd0 nd1 tk0 tk1).toInt) (hpb : 0 < (prf b nd0 nd1 tk0 tk1).toInt) :
    Mt l (⟨"com/example/quorumstone/quorumstone/check/Relaxation", "price", "(I)I"⟩ : MethodName) prog_8_method_15_code 12 (some .int) ws (rmm 2 0 0 60) #[(.ref (A 0)), (.int 2)] Z h0 (QPr2x Z A cc wk ps op s0 s1 x0 x1 y0 y1 M0 M1 a b nd0 nd1 tk0 tk1 dc0 dc1 c0 c1 c2 c3 c4 c5 c6 c7 q0 q1 q2 q3 q4 q5 q6 q7 h0 n0) 0 0 := by
  refine own_body n0 (plainFor_of_name pn_16) hw (fun m => ef_Pr2x m  A) ?_
  intro p ev s m below meth c s₁ Bd hZ hx hby hml hown X0 eh0 N0 w
  obtain ⟨k_A1, V_A1⟩ := P1
  obtain ⟨k_A7, V_A7⟩ := P7
  obtain ⟨k_A14, V_A14⟩ := P14
  obtain ⟨k_A4, V_A4⟩ := P4
  obtain ⟨k_A2, V_A2⟩ := P2
  obtain ⟨k_A3, V_A3⟩ := P3
  obtain ⟨k_A5, V_A5⟩ := P5
  obtain ⟨k_A6, V_A6⟩ := P6
  obtain ⟨k_A17, V_A17⟩ := P17
  obtain ⟨k_A18, V_A18⟩ := P18
  have nn_A1 : (A 1) ∉ [(A 0), (A 17), (A 18)] := (nnA D 1 [0, 17, 18] rfl)
  have nn_A7 : (A 7) ∉ [(A 0), (A 17), (A 18)] := (nnA D 7 [0, 17, 18] rfl)
  have nn_A14 : (A 14) ∉ [(A 0), (A 17), (A 18)] := (nnA D 14 [0, 17, 18] rfl)
  have nn_A4 : (A 4) ∉ [(A 0), (A 17), (A 18)] := (nnA D 4 [0, 17, 18] rfl)
  have nn_A2 : (A 2) ∉ [(A 0), (A 17), (A 18)] := (nnA D 2 [0, 17, 18] rfl)
  have nn_A3 : (A 3) ∉ [(A 0), (A 17), (A 18)] := (nnA D 3 [0, 17, 18] rfl)
  have nn_A5 : (A 5) ∉ [(A 0), (A 17), (A 18)] := (nnA D 5 [0, 17, 18] rfl)
  have nn_A6 : (A 6) ∉ [(A 0), (A 17), (A 18)] := (nnA D 6 [0, 17, 18] rfl)
  have LA := own_LA hw
  have K := Keep.refl h0 [(A 0), (A 17), (A 18)]
  show GolF _ _ _ _ _ _ _ s₁ m 0 #[vr (A 0), vi 2, uu, uu, uu, uu, uu, uu, uu, uu, uu, uu] []
  refine Gol.aloadN X0 hx hby d16_0 1 rfl rfl rfl ?_
  refine Gol.iconst X0 hx hby d16_1 2 rfl (z := (0 : Int32)) rfl ?_
  refine Gol.putF X0 hx hby hZ hown (host := "") (Or.inl (w 123 _ rfl)) Via.refl eh0 (B_A0 25 _ _ _ rfl rfl) E_A0 (Or.inl (w 124 _ rfl)) (w 9 _ rfl) (ty := .int) (by decide) rfl rfl d16_2 5 rfl ?_
  intro T1 h1 X1 e1 W1
  have E_A0 := E_A0.wr W1
  have V_A17 := V_A17.other W1 (D 17 0 rfl)
  have V_A18 := V_A18.other W1 (D 18 0 rfl)
  have K := K.wr W1 (Or.inl (List.mem_of_getElem? (i := 0) rfl))
  have Zs := Nat.le_trans Zs (Keep.of_wr W1).1
  have B_A0 : FL Z h1 (A 0) (rxv A (100 : Int32) (0 : Int32) (0 : Int32) wk ps (3 : Int64) op) := B_A0.put LA (i0 := 25) rfl W1
  have N1 := Fr.snoc X1 N0 (G 0 rfl)
  refine Gol.iconst X1 hx hby d16_5 6 rfl (z := (-1 : Int32)) rfl ?_
  refine Gol.istoreN X1 hx hby d16_6 7 rfl (l' := #[vr (A 0), vi 2, vi (-1), uu, uu, uu, uu, uu, uu, uu, uu, uu]) rfl ?_
  refine Gol.ldc2Double X1 hx hby hZ hown d16_7 10 rfl (w 131 _ rfl) ?_
  refine Gol.dstoreN X1 hx hby d16_10 11 rfl (l' := #[vr (A 0), vi 2, vi (-1), vd 4472406533629990549, ss, uu, uu, uu, uu, uu, uu, uu]) rfl ?_
  refine own_rows l Z a0 hw A (100 : Int32) (0 : Int32) wk ps op s0 s1 x0 x1 y0 y1 (2 : Int32) M0 M1 _ n0 Zs B_A0 E_A0 ⟨_, (V_A1.keep K nn_A1)⟩ ⟨_, (V_A7.keep K nn_A7)⟩ ⟨_, (V_A14.keep K nn_A14)⟩ hM0 hM1 X1 hx hby hZ hown hml e1 N1 ?_
  intro T2 L2 zp2 zs2 X2 N2 e2
  show GolF _ _ _ _ _ _ _ T2 m 172 #[vr (A 0), vi 2, vi (-1), vd 4472406533629990549, ss, vi 2, vi 3, vi 5, vd zp2, ss, vd zs2, ss] []
  refine Gol.fB X2 hx hby hZ hown (w 125 _ rfl) e2 B_A0 26 d16_172 d16_173 176 rfl rfl rfl rfl ?_
  intro T3 X3 e3
  refine Gol.istore X3 hx hby d16_176 178 rfl (l' := #[vr (A 0), vi 2, vi (-1), vd 4472406533629990549, ss, vi 0, vi 3, vi 5, vd zp2, ss, vd zs2, ss]) rfl ?_
  refine Gol.iconst X3 hx hby d16_178 179 rfl (z := (0 : Int32)) rfl ?_
  refine Gol.istore X3 hx hby d16_179 181 rfl (l' := #[vr (A 0), vi 2, vi (-1), vd 4472406533629990549, ss, vi 0, vi 0, vi 5, vd zp2, ss, vd zs2, ss]) rfl ?_
  refine Gol.iload X3 hx hby d16_181 183 rfl rfl ?_
  refine Gol.iloadN X3 hx hby d16_183 184 rfl rfl ?_
  refine Gol.icmpNo X3 hx hby d16_184 187 rfl (tlt (by decide : (0 : Int32) < (2 : Int32))).2.1 ?_
  refine Gol.iload X3 hx hby d16_187 189 rfl rfl ?_
  refine Gol.fB X3 hx hby hZ hown (w 34 _ rfl) e3 B_A0 5 d16_189 d16_190 193 rfl rfl rfl rfl ?_
  intro T4 X4 e4
  refine Gol.icmpYes X4 hx hby d16_193 200 (by decide) (tlt (by decide : (0 : Int32) < (100 : Int32))).1 ?_
  refine Gol.fB X4 hx hby hZ hown (w 44 _ rfl) e4 B_A0 10 d16_200 d16_201 204 rfl rfl rfl rfl ?_
  intro T5 X5 e5
  refine Gol.iload X5 hx hby d16_204 206 rfl rfl ?_
  refine Gol.iaload X5 hx hby hZ e5 (V_A4.keep K nn_A4) d16_206 207 rfl ⟨by decide, by decide⟩ (v := a) rfl ?_
  refine Gol.istore X5 hx hby d16_207 209 rfl (l' := #[vr (A 0), vi 2, vi (-1), vd 4472406533629990549, ss, vi 0, vi 0, vi a, vd zp2, ss, vd zs2, ss]) rfl ?_
  refine Gol.fB X5 hx hby hZ hown (w 67 _ rfl) e5 B_A0 14 d16_209 d16_210 213 rfl rfl rfl rfl ?_
  intro T6 X6 e6
  refine Gol.iload X6 hx hby d16_213 215 rfl rfl ?_
  refine Gol.iaload X6 hx hby hZ e6 (V_A7.keep K nn_A7) d16_215 216 rfl (own_in6 ha) (v := (sel a x0 x1)) (own_rI ha) ?_
  refine Gol.ifNo X6 hx hby d16_216 219 rfl ((if0 _ _).trans (tlt hba).2.1) ?_
  refine Gol.fB X6 hx hby hZ hown (w 40 _ rfl) e6 B_A0 8 d16_219 d16_220 223 rfl rfl rfl rfl ?_
  intro T7 X7 e7
  refine Gol.iload X7 hx hby d16_223 225 rfl rfl ?_
  refine Gol.iaload X7 hx hby hZ e7 (V_A2.keep K nn_A2) d16_225 226 rfl (own_in2 ha) (v := (sel a nd0 nd1)) (own_rI ha) ?_
  refine Gol.fB X7 hx hby hZ hown (w 42 _ rfl) e7 B_A0 9 d16_226 d16_227 230 rfl rfl rfl rfl ?_
  intro T8 X8 e8
  refine Gol.iload X8 hx hby d16_230 232 rfl rfl ?_
  refine Gol.iaload X8 hx hby hZ e8 (V_A3.keep K nn_A3) d16_232 233 rfl (own_in2 ha) (v := (sel a tk0 tk1)) (own_rI ha) ?_
  refine Gol.isub X8 hx hby d16_233 234 rfl rfl ?_
  refine Gol.i2d X8 hx hby d16_234 235 rfl (v := (FP.l2d (prf a nd0 nd1 tk0 tk1))) (own_i2p hpa) ?_
  refine Gol.dstore X8 hx hby d16_235 237 rfl (l' := #[vr (A 0), vi 2, vi (-1), vd 4472406533629990549, ss, vi 0, vi 0, vi a, vd (FP.l2d (prf a nd0 nd1 tk0 tk1)), ss, vd zs2, ss]) rfl ?_
  refine Gol.fB X8 hx hby hZ hown (w 48 _ rfl) e8 B_A0 12 d16_237 d16_238 241 rfl rfl rfl rfl ?_
  intro T9 X9 e9
  refine Gol.iload X9 hx hby d16_241 243 rfl rfl ?_
  refine Gol.iaload X9 hx hby hZ e9 (V_A5.keep K nn_A5) d16_243 244 rfl (own_in3 ha) (v := a) (own_ds0 ha) ?_
  refine Gol.istore X9 hx hby d16_244 246 rfl (l' := #[vr (A 0), vi 2, vi (-1), vd 4472406533629990549, ss, vi 0, vi 0, vi a, vd (FP.l2d (prf a nd0 nd1 tk0 tk1)), ss, vi a, uu]) rfl ?_
  refine Gol.iload X9 hx hby d16_246 248 rfl rfl ?_
  refine Gol.fB X9 hx hby hZ hown (w 48 _ rfl) e9 B_A0 12 d16_248 d16_249 252 rfl rfl rfl rfl ?_
  intro T10 X10 e10
  refine Gol.iload X10 hx hby d16_252 254 rfl rfl ?_
  refine Gol.iconst X10 hx hby d16_254 255 rfl (z := (1 : Int32)) rfl ?_
  refine Gol.iadd X10 hx hby d16_255 256 rfl rfl ?_
  refine Gol.iaload X10 hx hby hZ e10 (V_A5.keep K nn_A5) d16_256 257 rfl (own_in31 ha) (v := (a + (1 : Int32))) (own_ds1 ha) ?_
  refine Gol.icmpNo X10 hx hby d16_257 260 rfl (tlt (own_lts ha)).2.1 ?_
  refine Gol.dload X10 hx hby d16_260 262 rfl rfl ?_
  refine Gol.fB X10 hx hby hZ hown (w 77 _ rfl) e10 B_A0 19 d16_262 d16_263 266 rfl rfl rfl rfl ?_
  intro T11 X11 e11
  refine Gol.fB X11 hx hby hZ hown (w 57 _ rfl) e11 B_A0 13 d16_266 d16_267 270 rfl rfl rfl rfl ?_
  intro T12 X12 e12
  refine Gol.iload X12 hx hby d16_270 272 rfl rfl ?_
  refine Gol.iaload X12 hx hby hZ e12 (V_A6.keep K nn_A6) d16_272 273 rfl (own_in2 ha) (v := (sel a dc0 dc1)) (own_rI ha) ?_
  refine Gol.daload X12 hx hby hZ e12 (V_A14.keep K nn_A14) d16_273 274 rfl (own_in2 (own_selB hdc0 hdc1)) (v := (0 : UInt64)) ((own_rD (own_selB hdc0 hdc1)).trans (congrArg Value.double hma)) ?_
  refine Gol.dsub X12 hx hby d16_274 275 rfl (v := (FP.l2d (prf a nd0 nd1 tk0 tk1))) own_fin (own_sub0 (own_b53 _)) ?_
  refine Gol.dstore X12 hx hby d16_275 277 rfl (l' := #[vr (A 0), vi 2, vi (-1), vd 4472406533629990549, ss, vi 0, vi 0, vi a, vd (FP.l2d (prf a nd0 nd1 tk0 tk1)), ss, vi a, uu]) rfl ?_
  refine Gol.iinc X12 hx hby d16_277 280 rfl rfl (l' := #[vr (A 0), vi 2, vi (-1), vd 4472406533629990549, ss, vi 0, vi 0, vi a, vd (FP.l2d (prf a nd0 nd1 tk0 tk1)), ss, vi (a + (1 : Int32)), uu]) rfl ?_
  refine Gol.goto X12 hx hby d16_280 246 (by decide) ?_
  refine Gol.iload X12 hx hby d16_246 248 rfl rfl ?_
  refine Gol.fB X12 hx hby hZ hown (w 48 _ rfl) e12 B_A0 12 d16_248 d16_249 252 rfl rfl rfl rfl ?_
  intro T13 X13 e13
  refine Gol.iload X13 hx hby d16_252 254 rfl rfl ?_
  refine Gol.iconst X13 hx hby d16_254 255 rfl (z := (1 : Int32)) rfl ?_
  refine Gol.iadd X13 hx hby d16_255 256 rfl rfl ?_
  refine Gol.iaload X13 hx hby hZ e13 (V_A5.keep K nn_A5) d16_256 257 rfl (own_in31 ha) (v := (a + (1 : Int32))) (own_ds1 ha) ?_
  refine Gol.icmpYes X13 hx hby d16_257 283 (by decide) (flt Int32.lt_irrefl).2.1 ?_
  refine Gol.dload X13 hx hby d16_283 285 rfl rfl ?_
  refine Gol.ldc2Double X13 hx hby hZ hown d16_285 288 rfl (w 131 _ rfl) ?_
  refine Gol.dcmp X13 hx hby d16_288 289 rfl (v := (1 : Int32)) (own_cmpT hpa (own_b53 _) _) ?_
  refine Gol.ifNo X13 hx hby d16_289 292 rfl ((if0 _ _).trans (tlt (by decide : (0 : Int32) < (1 : Int32))).2.2.2) ?_
  refine Gol.aloadN X13 hx hby d16_292 293 rfl rfl rfl ?_
  refine Gol.iload X13 hx hby d16_293 295 rfl rfl ?_
  refine Gol.dload X13 hx hby d16_295 297 rfl rfl ?_
  refine Gol.callQ X13 hx hby hZ hown (z := zM0) 0 [(.int a), (.double (FP.l2d (prf a nd0 nd1 tk0 tk1)))] (a := (A 0)) (w 136 _ rfl) (w 137 _ rfl) (w 101 _ rfl) rfl (w 138 _ rfl) (w 10 _ rfl) (w 139 _ rfl) (by decide) E_A0 (rmOff0 l Z a0 hw [] a (FP.l2d (prf a nd0 nd1 tk0 tk1)) A (100 : Int32) (0 : Int32) wk ps (3 : Int64) op c0 c1 c2 c3 c4 c5 c6 c7 q0 q1 q2 q3 q4 q5 q6 q7 h1 n0 Zs D G B_A0 E_A0 ⟨_, V_A17⟩ ⟨_, V_A18⟩ ) (by decide) (by decide) e13 (by rw [hml]; rfl) (rest := []) (Nat.le_of_eq rfl) (by decide) (by decide) (lenOf pd_5 rfl) rfl d16_297 300 rfl ?_
  intro T14 v14 L14 X14 hQ14
  obtain ⟨rfl, Nq14, Kq14, B_A0, ⟨k14_A17, V_A17⟩, ⟨k14_A18, V_A18⟩⟩ := hQ14
  have N14 := Fr.app N2 Nq14
  have E_A0 := E_A0.keep Kq14
  have K := K.trans Kq14 (allS (Or.inl (List.mem_of_getElem? (i := 0) rfl)) (allS (Or.inl (List.mem_of_getElem? (i := 1) rfl)) (allS (Or.inl (List.mem_of_getElem? (i := 2) rfl)) all0)))
  have Zs := Nat.le_trans Zs Kq14.1
  show GolF _ _ _ _ _ _ _ T14 m 300 #[vr (A 0), vi 2, vi (-1), vd 4472406533629990549, ss, vi 0, vi 0, vi a, vd (FP.l2d (prf a nd0 nd1 tk0 tk1)), ss, vi (a + (1 : Int32)), uu] [(.int 1)]
  refine Gol.ifNo X14 hx hby d16_300 303 rfl ((if0 _ _).trans (feq (by decide : ¬ ((1 : Int32) = (0 : Int32)))).1) ?_
  refine Gol.dload X14 hx hby d16_303 305 rfl rfl ?_
  refine Gol.dloadN X14 hx hby d16_305 306 rfl rfl ?_
  refine Gol.dcmp X14 hx hby d16_306 307 rfl (v := (1 : Int32)) (own_cmpT hpa (own_b53 _) _) ?_
  refine Gol.ifNo X14 hx hby d16_307 310 rfl ((if0 _ _).trans (tlt (by decide : (0 : Int32) < (1 : Int32))).2.2.2) ?_
  refine Gol.iload X14 hx hby d16_310 312 rfl rfl ?_
  refine Gol.istoreN X14 hx hby d16_312 313 rfl (l' := #[vr (A 0), vi 2, vi a, vd 4472406533629990549, ss, vi 0, vi 0, vi a, vd (FP.l2d (prf a nd0 nd1 tk0 tk1)), ss, vi (a + (1 : Int32)), uu]) rfl ?_
  refine Gol.dload X14 hx hby d16_313 315 rfl rfl ?_
  refine Gol.dstoreN X14 hx hby d16_315 316 rfl (l' := #[vr (A 0), vi 2, vi a, vd (FP.l2d (prf a nd0 nd1 tk0 tk1)), ss, vi 0, vi 0, vi a, vd (FP.l2d (prf a nd0 nd1 tk0 tk1)), ss, vi (a + (1 : Int32)), uu]) rfl ?_
  refine Gol.iload X14 hx hby d16_316 318 rfl rfl ?_
  refine Gol.iconst X14 hx hby d16_318 319 rfl (z := (1 : Int32)) rfl ?_
  refine Gol.iadd X14 hx hby d16_319 320 rfl (z := (1 : Int32)) rfl ?_
  refine Gol.iloadN X14 hx hby d16_320 321 rfl rfl ?_
  refine Gol.icmpNo X14 hx hby d16_321 324 rfl (tlt (by decide : (1 : Int32) < (2 : Int32))).2.1 ?_
  refine Gol.iload X14 hx hby d16_324 326 rfl rfl ?_
  refine Gol.iconst X14 hx hby d16_326 327 rfl (z := (1 : Int32)) rfl ?_
  refine Gol.iadd X14 hx hby d16_327 328 rfl (z := (1 : Int32)) rfl ?_
  refine Gol.goto X14 hx hby d16_328 332 (by decide) ?_
  refine Gol.istore X14 hx hby d16_332 334 rfl (l' := #[vr (A 0), vi 2, vi a, vd (FP.l2d (prf a nd0 nd1 tk0 tk1)), ss, vi 1, vi 0, vi a, vd (FP.l2d (prf a nd0 nd1 tk0 tk1)), ss, vi (a + (1 : Int32)), uu]) rfl ?_
  refine Gol.iinc X14 hx hby d16_334 337 rfl rfl (l' := #[vr (A 0), vi 2, vi a, vd (FP.l2d (prf a nd0 nd1 tk0 tk1)), ss, vi 1, vi 1, vi a, vd (FP.l2d (prf a nd0 nd1 tk0 tk1)), ss, vi (a + (1 : Int32)), uu]) rfl ?_
  refine Gol.goto X14 hx hby d16_337 181 (by decide) ?_
  refine Gol.iload X14 hx hby d16_181 183 rfl rfl ?_
  refine Gol.iloadN X14 hx hby d16_183 184 rfl rfl ?_
  refine Gol.icmpNo X14 hx hby d16_184 187 rfl (tlt (by decide : (1 : Int32) < (2 : Int32))).2.1 ?_
  refine Gol.iload X14 hx hby d16_187 189 rfl rfl ?_
  refine Gol.fB X14 hx hby hZ hown (w 34 _ rfl) rfl B_A0 5 d16_189 d16_190 193 rfl rfl rfl rfl ?_
  intro T15 X15 e15
  refine Gol.icmpYes X15 hx hby d16_193 200 (by decide) (tlt (by decide : (1 : Int32) < (100 : Int32))).1 ?_
  refine Gol.fB X15 hx hby hZ hown (w 44 _ rfl) e15 B_A0 10 d16_200 d16_201 204 rfl rfl rfl rfl ?_
  intro T16 X16 e16
  refine Gol.iload X16 hx hby d16_204 206 rfl rfl ?_
  refine Gol.iaload X16 hx hby hZ e16 (V_A4.keep K nn_A4) d16_206 207 rfl ⟨by decide, by decide⟩ (v := b) rfl ?_
  refine Gol.istore X16 hx hby d16_207 209 rfl (l' := #[vr (A 0), vi 2, vi a, vd (FP.l2d (prf a nd0 nd1 tk0 tk1)), ss, vi 1, vi 1, vi b, vd (FP.l2d (prf a nd0 nd1 tk0 tk1)), ss, vi (a + (1 : Int32)), uu]) rfl ?_
  refine Gol.fB X16 hx hby hZ hown (w 67 _ rfl) e16 B_A0 14 d16_209 d16_210 213 rfl rfl rfl rfl ?_
  intro T17 X17 e17
  refine Gol.iload X17 hx hby d16_213 215 rfl rfl ?_
  refine Gol.iaload X17 hx hby hZ e17 (V_A7.keep K nn_A7) d16_215 216 rfl (own_in6 hb) (v := (sel b x0 x1)) (own_rI hb) ?_
  refine Gol.ifNo X17 hx hby d16_216 219 rfl ((if0 _ _).trans (tlt hbb).2.1) ?_
  refine Gol.fB X17 hx hby hZ hown (w 40 _ rfl) e17 B_A0 8 d16_219 d16_220 223 rfl rfl rfl rfl ?_
  intro T18 X18 e18
  refine Gol.iload X18 hx hby d16_223 225 rfl rfl ?_
  refine Gol.iaload X18 hx hby hZ e18 (V_A2.keep K nn_A2) d16_225 226 rfl (own_in2 hb) (v := (sel b nd0 nd1)) (own_rI hb) ?_
  refine Gol.fB X18 hx hby hZ hown (w 42 _ rfl) e18 B_A0 9 d16_226 d16_227 230 rfl rfl rfl rfl ?_
  intro T19 X19 e19
  refine Gol.iload X19 hx hby d16_230 232 rfl rfl ?_
  refine Gol.iaload X19 hx hby hZ e19 (V_A3.keep K nn_A3) d16_232 233 rfl (own_in2 hb) (v := (sel b tk0 tk1)) (own_rI hb) ?_
  refine Gol.isub X19 hx hby d16_233 234 rfl rfl ?_
  refine Gol.i2d X19 hx hby d16_234 235 rfl (v := (FP.l2d (prf b nd0 nd1 tk0 tk1))) (own_i2p hpb) ?_
  refine Gol.dstore X19 hx hby d16_235 237 rfl (l' := #[vr (A 0), vi 2, vi a, vd (FP.l2d (prf a nd0 nd1 tk0 tk1)), ss, vi 1, vi 1, vi b, vd (FP.l2d (prf b nd0 nd1 tk0 tk1)), ss, vi (a + (1 : Int32)), uu]) rfl ?_
  refine Gol.fB X19 hx hby hZ hown (w 48 _ rfl) e19 B_A0 12 d16_237 d16_238 241 rfl rfl rfl rfl ?_
  intro T20 X20 e20
  refine Gol.iload X20 hx hby d16_241 243 rfl rfl ?_
  refine Gol.iaload X20 hx hby hZ e20 (V_A5.keep K nn_A5) d16_243 244 rfl (own_in3 hb) (v := b) (own_ds0 hb) ?_
  refine Gol.istore X20 hx hby d16_244 246 rfl (l' := #[vr (A 0), vi 2, vi a, vd (FP.l2d (prf a nd0 nd1 tk0 tk1)), ss, vi 1, vi 1, vi b, vd (FP.l2d (prf b nd0 nd1 tk0 tk1)), ss, vi b, uu]) rfl ?_
  refine Gol.iload X20 hx hby d16_246 248 rfl rfl ?_
  refine Gol.fB X20 hx hby hZ hown (w 48 _ rfl) e20 B_A0 12 d16_248 d16_249 252 rfl rfl rfl rfl ?_
  intro T21 X21 e21
  refine Gol.iload X21 hx hby d16_252 254 rfl rfl ?_
  refine Gol.iconst X21 hx hby d16_254 255 rfl (z := (1 : Int32)) rfl ?_
  refine Gol.iadd X21 hx hby d16_255 256 rfl rfl ?_
  refine Gol.iaload X21 hx hby hZ e21 (V_A5.keep K nn_A5) d16_256 257 rfl (own_in31 hb) (v := (b + (1 : Int32))) (own_ds1 hb) ?_
  refine Gol.icmpNo X21 hx hby d16_257 260 rfl (tlt (own_lts hb)).2.1 ?_
  refine Gol.dload X21 hx hby d16_260 262 rfl rfl ?_
  refine Gol.fB X21 hx hby hZ hown (w 77 _ rfl) e21 B_A0 19 d16_262 d16_263 266 rfl rfl rfl rfl ?_
  intro T22 X22 e22
  refine Gol.fB X22 hx hby hZ hown (w 57 _ rfl) e22 B_A0 13 d16_266 d16_267 270 rfl rfl rfl rfl ?_
  intro T23 X23 e23
  refine Gol.iload X23 hx hby d16_270 272 rfl rfl ?_
  refine Gol.iaload X23 hx hby hZ e23 (V_A6.keep K nn_A6) d16_272 273 rfl (own_in2 hb) (v := (sel b dc0 dc1)) (own_rI hb) ?_
  refine Gol.daload X23 hx hby hZ e23 (V_A14.keep K nn_A14) d16_273 274 rfl (own_in2 (own_selB hdc0 hdc1)) (v := (0 : UInt64)) ((own_rD (own_selB hdc0 hdc1)).trans (congrArg Value.double hmb)) ?_
  refine Gol.dsub X23 hx hby d16_274 275 rfl (v := (FP.l2d (prf b nd0 nd1 tk0 tk1))) own_fin (own_sub0 (own_b53 _)) ?_
  refine Gol.dstore X23 hx hby d16_275 277 rfl (l' := #[vr (A 0), vi 2, vi a, vd (FP.l2d (prf a nd0 nd1 tk0 tk1)), ss, vi 1, vi 1, vi b, vd (FP.l2d (prf b nd0 nd1 tk0 tk1)), ss, vi b, uu]) rfl ?_
  refine Gol.iinc X23 hx hby d16_277 280 rfl rfl (l' := #[vr (A 0), vi 2, vi a, vd (FP.l2d (prf a nd0 nd1 tk0 tk1)), ss, vi 1, vi 1, vi b, vd (FP.l2d (prf b nd0 nd1 tk0 tk1)), ss, vi (b + (1 : Int32)), uu]) rfl ?_
  refine Gol.goto X23 hx hby d16_280 246 (by decide) ?_
  refine Gol.iload X23 hx hby d16_246 248 rfl rfl ?_
  refine Gol.fB X23 hx hby hZ hown (w 48 _ rfl) e23 B_A0 12 d16_248 d16_249 252 rfl rfl rfl rfl ?_
  intro T24 X24 e24
  refine Gol.iload X24 hx hby d16_252 254 rfl rfl ?_
  refine Gol.iconst X24 hx hby d16_254 255 rfl (z := (1 : Int32)) rfl ?_
  refine Gol.iadd X24 hx hby d16_255 256 rfl rfl ?_
  refine Gol.iaload X24 hx hby hZ e24 (V_A5.keep K nn_A5) d16_256 257 rfl (own_in31 hb) (v := (b + (1 : Int32))) (own_ds1 hb) ?_
  refine Gol.icmpYes X24 hx hby d16_257 283 (by decide) (flt Int32.lt_irrefl).2.1 ?_
  refine Gol.dload X24 hx hby d16_283 285 rfl rfl ?_
  refine Gol.ldc2Double X24 hx hby hZ hown d16_285 288 rfl (w 131 _ rfl) ?_
  refine Gol.dcmp X24 hx hby d16_288 289 rfl (v := (1 : Int32)) (own_cmpT hpb (own_b53 _) _) ?_
  refine Gol.ifNo X24 hx hby d16_289 292 rfl ((if0 _ _).trans (tlt (by decide : (0 : Int32) < (1 : Int32))).2.2.2) ?_
  refine Gol.aloadN X24 hx hby d16_292 293 rfl rfl rfl ?_
  refine Gol.iload X24 hx hby d16_293 295 rfl rfl ?_
  refine Gol.dload X24 hx hby d16_295 297 rfl rfl ?_
  refine Gol.callQ X24 hx hby hZ hown (z := zM0) 0 [(.int b), (.double (FP.l2d (prf b nd0 nd1 tk0 tk1)))] (a := (A 0)) (w 136 _ rfl) (w 137 _ rfl) (w 101 _ rfl) rfl (w 138 _ rfl) (w 10 _ rfl) (w 139 _ rfl) (by decide) E_A0 (rmOff1 l Z a0 hw [] b (FP.l2d (prf b nd0 nd1 tk0 tk1)) A (100 : Int32) (0 : Int32) ps (3 : Int64) op (.int a) c1 c2 c3 c4 c5 c6 c7 (FP.l2d (prf a nd0 nd1 tk0 tk1)) q1 q2 q3 q4 q5 q6 q7 T14.heap n0 Zs D G B_A0 E_A0 ⟨_, V_A17⟩ ⟨_, V_A18⟩ ) (by decide) (by decide) e24 (by rw [hml]; rfl) (rest := []) (Nat.le_of_eq rfl) (by decide) (by decide) (lenOf pd_5 rfl) rfl d16_297 300 rfl ?_
  intro T25 v25 L25 X25 hQ25
  obtain ⟨rfl, Nq25, Kq25, ⟨wz25, B_A0⟩, ⟨k25_A17, V_A17⟩, ⟨k25_A18, V_A18⟩⟩ := hQ25
  have N25 := Fr.app N14 Nq25
  have E_A0 := E_A0.keep Kq25
  have K := K.trans Kq25 (allS (Or.inl (List.mem_of_getElem? (i := 0) rfl)) (allS (Or.inl (List.mem_of_getElem? (i := 1) rfl)) (allS (Or.inl (List.mem_of_getElem? (i := 2) rfl)) all0)))
  show GolF _ _ _ _ _ _ _ T25 m 300 #[vr (A 0), vi 2, vi a, vd (FP.l2d (prf a nd0 nd1 tk0 tk1)), ss, vi 1, vi 1, vi b, vd (FP.l2d (prf b nd0 nd1 tk0 tk1)), ss, vi (b + (1 : Int32)), uu] [(.int 1)]
  refine Gol.ifNo X25 hx hby d16_300 303 rfl ((if0 _ _).trans (feq (by decide : ¬ ((1 : Int32) = (0 : Int32)))).1) ?_
  refine Gol.dload X25 hx hby d16_303 305 rfl rfl ?_
  refine Gol.dloadN X25 hx hby d16_305 306 rfl rfl ?_
  refine Gol.dcmp X25 hx hby d16_306 307 rfl (v := (lcmpW (prf b nd0 nd1 tk0 tk1) (prf a nd0 nd1 tk0 tk1))) (dcmpV_w (own_b53 _) (own_b53 _) _) ?_
  by_cases hc307_26 : (0 : Int32) < (lcmpW (prf b nd0 nd1 tk0 tk1) (prf a nd0 nd1 tk0 tk1))
  · skip
    refine Gol.ifNo X25 hx hby d16_307 310 rfl ((if0 _ _).trans (tlt hc307_26).2.2.2) ?_
    refine Gol.iload X25 hx hby d16_310 312 rfl rfl ?_
    refine Gol.istoreN X25 hx hby d16_312 313 rfl (l' := #[vr (A 0), vi 2, vi b, vd (FP.l2d (prf a nd0 nd1 tk0 tk1)), ss, vi 1, vi 1, vi b, vd (FP.l2d (prf b nd0 nd1 tk0 tk1)), ss, vi (b + (1 : Int32)), uu]) rfl ?_
    refine Gol.dload X25 hx hby d16_313 315 rfl rfl ?_
    refine Gol.dstoreN X25 hx hby d16_315 316 rfl (l' := #[vr (A 0), vi 2, vi b, vd (FP.l2d (prf b nd0 nd1 tk0 tk1)), ss, vi 1, vi 1, vi b, vd (FP.l2d (prf b nd0 nd1 tk0 tk1)), ss, vi (b + (1 : Int32)), uu]) rfl ?_
    refine Gol.iload X25 hx hby d16_316 318 rfl rfl ?_
    refine Gol.iconst X25 hx hby d16_318 319 rfl (z := (1 : Int32)) rfl ?_
    refine Gol.iadd X25 hx hby d16_319 320 rfl (z := (2 : Int32)) rfl ?_
    refine Gol.iloadN X25 hx hby d16_320 321 rfl rfl ?_
    refine Gol.icmpYes X25 hx hby d16_321 331 (by decide) (flt (by decide : ¬ ((2 : Int32) < (2 : Int32)))).2.1 ?_
    refine Gol.iconst X25 hx hby d16_331 332 rfl (z := (0 : Int32)) rfl ?_
    refine Gol.istore X25 hx hby d16_332 334 rfl (l' := #[vr (A 0), vi 2, vi b, vd (FP.l2d (prf b nd0 nd1 tk0 tk1)), ss, vi 0, vi 1, vi b, vd (FP.l2d (prf b nd0 nd1 tk0 tk1)), ss, vi (b + (1 : Int32)), uu]) rfl ?_
    refine Gol.iinc X25 hx hby d16_334 337 rfl rfl (l' := #[vr (A 0), vi 2, vi b, vd (FP.l2d (prf b nd0 nd1 tk0 tk1)), ss, vi 0, vi 2, vi b, vd (FP.l2d (prf b nd0 nd1 tk0 tk1)), ss, vi (b + (1 : Int32)), uu]) rfl ?_
    refine Gol.goto X25 hx hby d16_337 181 (by decide) ?_
    refine Gol.iload X25 hx hby d16_181 183 rfl rfl ?_
    refine Gol.iloadN X25 hx hby d16_183 184 rfl rfl ?_
    refine Gol.icmpYes X25 hx hby d16_184 340 (by decide) (flt (by decide : ¬ ((2 : Int32) < (2 : Int32)))).2.1 ?_
    refine Gol.aloadN X25 hx hby d16_340 341 rfl rfl rfl ?_
    refine Gol.iload X25 hx hby d16_341 343 rfl rfl ?_
    refine Gol.putF X25 hx hby hZ hown (host := "") (Or.inl (w 125 _ rfl)) Via.refl rfl (B_A0 26 _ _ _ rfl rfl) E_A0 (Or.inl (w 126 _ rfl)) (w 9 _ rfl) (ty := .int) (by decide) rfl rfl d16_343 346 rfl ?_
    intro T27 h27 X27 e27 W27
    have V_A17 := V_A17.other W27 (D 17 0 rfl)
    have V_A18 := V_A18.other W27 (D 18 0 rfl)
    have K := K.wr W27 (Or.inl (List.mem_of_getElem? (i := 0) rfl))
    have B_A0 : FL Z h27 (A 0) (rxv A (100 : Int32) (2 : Int32) (0 : Int32) wz25 ps (3 : Int64) op) := B_A0.put LA (i0 := 26) rfl W27
    have N27 := Fr.snoc X27 N25 (G 0 rfl)
    refine Gol.iloadN X27 hx hby d16_346 347 rfl rfl ?_
    exact Gol.retI X27 hx hby Bd.returns Bd.notSynchronized d16_347 e27 ⟨⟨_, rfl, Or.inr ⟨rfl, hc307_26⟩⟩, N27, K, ⟨_, B_A0⟩, ⟨_, V_A17⟩, ⟨_, V_A18⟩⟩ (by decide) (by decide)
  · skip
    refine Gol.ifYes X25 hx hby d16_307 316 (by decide) ((if0 _ _).trans (flt hc307_26).2.2.2) ?_
    refine Gol.iload X25 hx hby d16_316 318 rfl rfl ?_
    refine Gol.iconst X25 hx hby d16_318 319 rfl (z := (1 : Int32)) rfl ?_
    refine Gol.iadd X25 hx hby d16_319 320 rfl (z := (2 : Int32)) rfl ?_
    refine Gol.iloadN X25 hx hby d16_320 321 rfl rfl ?_
    refine Gol.icmpYes X25 hx hby d16_321 331 (by decide) (flt (by decide : ¬ ((2 : Int32) < (2 : Int32)))).2.1 ?_
    refine Gol.iconst X25 hx hby d16_331 332 rfl (z := (0 : Int32)) rfl ?_
    refine Gol.istore X25 hx hby d16_332 334 rfl (l' := #[vr (A 0), vi 2, vi a, vd (FP.l2d (prf a nd0 nd1 tk0 tk1)), ss, vi 0, vi 1, vi b, vd (FP.l2d (prf b nd0 nd1 tk0 tk1)), ss, vi (b + (1 : Int32)), uu]) rfl ?_
    refine Gol.iinc X25 hx hby d16_334 337 rfl rfl (l' := #[vr (A 0), vi 2, vi a, vd (FP.l2d (prf a nd0 nd1 tk0 tk1)), ss, vi 0, vi 2, vi b, vd (FP.l2d (prf b nd0 nd1 tk0 tk1)), ss, vi (b + (1 : Int32)), uu]) rfl ?_
    refine Gol.goto X25 hx hby d16_337 181 (by decide) ?_
    refine Gol.iload X25 hx hby d16_181 183 rfl rfl ?_
    refine Gol.iloadN X25 hx hby d16_183 184 rfl rfl ?_
    refine Gol.icmpYes X25 hx hby d16_184 340 (by decide) (flt (by decide : ¬ ((2 : Int32) < (2 : Int32)))).2.1 ?_
    refine Gol.aloadN X25 hx hby d16_340 341 rfl rfl rfl ?_
    refine Gol.iload X25 hx hby d16_341 343 rfl rfl ?_
    refine Gol.putF X25 hx hby hZ hown (host := "") (Or.inl (w 125 _ rfl)) Via.refl rfl (B_A0 26 _ _ _ rfl rfl) E_A0 (Or.inl (w 126 _ rfl)) (w 9 _ rfl) (ty := .int) (by decide) rfl rfl d16_343 346 rfl ?_
    intro T28 h28 X28 e28 W28
    have V_A17 := V_A17.other W28 (D 17 0 rfl)
    have V_A18 := V_A18.other W28 (D 18 0 rfl)
    have K := K.wr W28 (Or.inl (List.mem_of_getElem? (i := 0) rfl))
    have B_A0 : FL Z h28 (A 0) (rxv A (100 : Int32) (2 : Int32) (0 : Int32) wz25 ps (3 : Int64) op) := B_A0.put LA (i0 := 26) rfl W28
    have N28 := Fr.snoc X28 N25 (G 0 rfl)
    refine Gol.iloadN X28 hx hby d16_346 347 rfl rfl ?_
    exact Gol.retI X28 hx hby Bd.returns Bd.notSynchronized d16_347 e28 ⟨⟨_, rfl, Or.inl ⟨rfl, hc307_26⟩⟩, N28, K, ⟨_, B_A0⟩, ⟨_, V_A17⟩, ⟨_, V_A18⟩⟩ (by decide) (by decide)
theorem ef_Pr2n (m : MethodId)  (A : Nat → Addr) : entryFrame m #[(.ref (A 0)), (.int 2)] 12 = mkF m 0 #[vr (A 0), vi 2, uu, uu, uu, uu, uu, uu, uu, uu, uu, uu] [] := by first | (simp [entryFrame, mkF, argsToLocals, Value.category]; done) | rfl
abbrev QPr2n (Z : State) (A : Nat → Addr) (pp cc wk ps op s0 s1 x0 x1 y0 y1 : Int32) (M0 M1 : Int64) (a b : Int32) (h0 : Heap) (n0 : Nat) (v : Option Value) (h : Heap) (L : List Loc) : Prop := v = some (.int (-1)) ∧ Fr n0 L ∧ Keep h0 h [(A 0)] ∧ FL Z h (A 0) (rxv A pp (0 : Int32) (0 : Int32) wk ps (3 : Int64) op)
set_option maxRecDepth 65536 in
set_option maxHeartbeats 40000000 in
theorem rmPr2n (l : Launch) (Z : State) (a0 : Array Value) (hw : TW a0 Z) (ws : List Jvm.Cond) (A : Nat → Addr) (pp cc wk ps op s0 s1 x0 x1 y0 y1 : Int32) (M0 M1 : Int64) (a b : Int32) (h0 : Heap) (n0 : Nat) (Zs : n0 ≤ h0.size) (D : DisA A) (G : FreA A n0) (B_A0 : FL Z h0 (A 0) (rxv A pp cc (0 : Int32) wk ps (3 : Int64) op)) (E_A0 : Exa Z h0 (A 0) "com/example/quorumstone/quorumstone/check/Relaxation") (P1 : Vv Z h0 (A 1) .int (2 : Int32) [(.int s0), (.int s1)] (.int 0)) (P7 : Vv Z h0 (A 7) .int (6 : Int32) [(.int x0), (.int x1), (.int (-1)), (.int (-1)), (.int y0), (.int y1)] (.int 0)) (P14 : Vv Z h0 (A 14) .double (2 : Int32) [(.double (FP.l2d M0)), (.double (FP.l2d M1))] (.double 0)) (P4 : Vv Z h0 (A 4) .int (2 : Int32) [(.int a), (.int b)] (.int 0)) (hM0 : 0 ≤ M0.toInt ∧ M0.toInt ≤ s0.toInt) (hM1 : 0 ≤ M1.toInt ∧ M1.toInt ≤ s1.toInt) (ha : B01 a) (hb : B01 b) (hba : ¬ sel a x0 x1 < 0) (hbb : ¬ sel b x0 x1 < 0) :
    Mt l (⟨"com/example/quorumstone/quorumstone/check/Relaxation", "price", "(I)I"⟩ : MethodName) prog_8_method_15_code 12 (some .int) ws (rmm 2 0 0 60) #[(.ref (A 0)), (.int 2)] Z h0 (QPr2n Z A pp cc wk ps op s0 s1 x0 x1 y0 y1 M0 M1 a b h0 n0) 0 0 := by
  refine own_body n0 (plainFor_of_name pn_16) hw (fun m => ef_Pr2n m  A) ?_
  intro p ev s m below meth c s₁ Bd hZ hx hby hml hown X0 eh0 N0 w
  obtain ⟨k_A1, V_A1⟩ := P1
  obtain ⟨k_A7, V_A7⟩ := P7
  obtain ⟨k_A14, V_A14⟩ := P14
  obtain ⟨k_A4, V_A4⟩ := P4
  have nn_A1 : (A 1) ∉ [(A 0)] := (nnA D 1 [0] rfl)
  have nn_A7 : (A 7) ∉ [(A 0)] := (nnA D 7 [0] rfl)
  have nn_A14 : (A 14) ∉ [(A 0)] := (nnA D 14 [0] rfl)
  have nn_A4 : (A 4) ∉ [(A 0)] := (nnA D 4 [0] rfl)
  have LA := own_LA hw
  have K := Keep.refl h0 [(A 0)]
  show GolF _ _ _ _ _ _ _ s₁ m 0 #[vr (A 0), vi 2, uu, uu, uu, uu, uu, uu, uu, uu, uu, uu] []
  refine Gol.aloadN X0 hx hby d16_0 1 rfl rfl rfl ?_
  refine Gol.iconst X0 hx hby d16_1 2 rfl (z := (0 : Int32)) rfl ?_
  refine Gol.putF X0 hx hby hZ hown (host := "") (Or.inl (w 123 _ rfl)) Via.refl eh0 (B_A0 25 _ _ _ rfl rfl) E_A0 (Or.inl (w 124 _ rfl)) (w 9 _ rfl) (ty := .int) (by decide) rfl rfl d16_2 5 rfl ?_
  intro T1 h1 X1 e1 W1
  have E_A0 := E_A0.wr W1
  have K := K.wr W1 (Or.inl (List.mem_of_getElem? (i := 0) rfl))
  have Zs := Nat.le_trans Zs (Keep.of_wr W1).1
  have B_A0 : FL Z h1 (A 0) (rxv A pp (0 : Int32) (0 : Int32) wk ps (3 : Int64) op) := B_A0.put LA (i0 := 25) rfl W1
  have N1 := Fr.snoc X1 N0 (G 0 rfl)
  refine Gol.iconst X1 hx hby d16_5 6 rfl (z := (-1 : Int32)) rfl ?_
  refine Gol.istoreN X1 hx hby d16_6 7 rfl (l' := #[vr (A 0), vi 2, vi (-1), uu, uu, uu, uu, uu, uu, uu, uu, uu]) rfl ?_
  refine Gol.ldc2Double X1 hx hby hZ hown d16_7 10 rfl (w 131 _ rfl) ?_
  refine Gol.dstoreN X1 hx hby d16_10 11 rfl (l' := #[vr (A 0), vi 2, vi (-1), vd 4472406533629990549, ss, uu, uu, uu, uu, uu, uu, uu]) rfl ?_
  refine own_rows l Z a0 hw A pp (0 : Int32) wk ps op s0 s1 x0 x1 y0 y1 (2 : Int32) M0 M1 _ n0 Zs B_A0 E_A0 ⟨_, (V_A1.keep K nn_A1)⟩ ⟨_, (V_A7.keep K nn_A7)⟩ ⟨_, (V_A14.keep K nn_A14)⟩ hM0 hM1 X1 hx hby hZ hown hml e1 N1 ?_
  intro T2 L2 zp2 zs2 X2 N2 e2
  show GolF _ _ _ _ _ _ _ T2 m 172 #[vr (A 0), vi 2, vi (-1), vd 4472406533629990549, ss, vi 2, vi 3, vi 5, vd zp2, ss, vd zs2, ss] []
  refine Gol.fB X2 hx hby hZ hown (w 125 _ rfl) e2 B_A0 26 d16_172 d16_173 176 rfl rfl rfl rfl ?_
  intro T3 X3 e3
  refine Gol.istore X3 hx hby d16_176 178 rfl (l' := #[vr (A 0), vi 2, vi (-1), vd 4472406533629990549, ss, vi 0, vi 3, vi 5, vd zp2, ss, vd zs2, ss]) rfl ?_
  refine Gol.iconst X3 hx hby d16_178 179 rfl (z := (0 : Int32)) rfl ?_
  refine Gol.istore X3 hx hby d16_179 181 rfl (l' := #[vr (A 0), vi 2, vi (-1), vd 4472406533629990549, ss, vi 0, vi 0, vi 5, vd zp2, ss, vd zs2, ss]) rfl ?_
  refine Gol.iload X3 hx hby d16_181 183 rfl rfl ?_
  refine Gol.iloadN X3 hx hby d16_183 184 rfl rfl ?_
  refine Gol.icmpNo X3 hx hby d16_184 187 rfl (tlt (by decide : (0 : Int32) < (2 : Int32))).2.1 ?_
  refine Gol.iload X3 hx hby d16_187 189 rfl rfl ?_
  refine Gol.fB X3 hx hby hZ hown (w 34 _ rfl) e3 B_A0 5 d16_189 d16_190 193 rfl rfl rfl rfl ?_
  intro T4 X4 e4
  refine Gol.dia (S' := (T4.setTop (mkF m 200 #[vr (A 0), vi 2, vi (-1), vd 4472406533629990549, ss, vi 0, vi 0, vi 5, vd zp2, ss, vd zs2, ss] []))) ?_ ?_
  · intro k
    by_cases hc193_5 : (0 : Int32) < pp
    · skip
      refine Gol.icmpYes X4 hx hby d16_193 200 (by decide) (tlt hc193_5).1 ?_
      exact k
    · skip
      refine Gol.icmpNo X4 hx hby d16_193 196 rfl (flt hc193_5).1 ?_
      refine Gol.iloadN X4 hx hby d16_196 197 rfl rfl ?_
      refine Gol.ifNo X4 hx hby d16_197 200 rfl ((if0 _ _).trans (tlt (by decide : (-1 : Int32) < (0 : Int32))).2.1) ?_
      exact k
  show GolF _ _ _ _ _ _ _ T4 m 200 #[vr (A 0), vi 2, vi (-1), vd 4472406533629990549, ss, vi 0, vi 0, vi 5, vd zp2, ss, vd zs2, ss] []
  refine Gol.fB X4 hx hby hZ hown (w 44 _ rfl) e4 B_A0 10 d16_200 d16_201 204 rfl rfl rfl rfl ?_
  intro T6 X6 e6
  refine Gol.iload X6 hx hby d16_204 206 rfl rfl ?_
  refine Gol.iaload X6 hx hby hZ e6 (V_A4.keep K nn_A4) d16_206 207 rfl ⟨by decide, by decide⟩ (v := a) rfl ?_
  refine Gol.istore X6 hx hby d16_207 209 rfl (l' := #[vr (A 0), vi 2, vi (-1), vd 4472406533629990549, ss, vi 0, vi 0, vi a, vd zp2, ss, vd zs2, ss]) rfl ?_
  refine Gol.fB X6 hx hby hZ hown (w 67 _ rfl) e6 B_A0 14 d16_209 d16_210 213 rfl rfl rfl rfl ?_
  intro T7 X7 e7
  refine Gol.iload X7 hx hby d16_213 215 rfl rfl ?_
  refine Gol.iaload X7 hx hby hZ e7 (V_A7.keep K nn_A7) d16_215 216 rfl (own_in6 ha) (v := (sel a x0 x1)) (own_rI ha) ?_
  refine Gol.ifYes X7 hx hby d16_216 316 (by decide) ((if0 _ _).trans (flt hba).2.1) ?_
  refine Gol.iload X7 hx hby d16_316 318 rfl rfl ?_
  refine Gol.iconst X7 hx hby d16_318 319 rfl (z := (1 : Int32)) rfl ?_
  refine Gol.iadd X7 hx hby d16_319 320 rfl (z := (1 : Int32)) rfl ?_
  refine Gol.iloadN X7 hx hby d16_320 321 rfl rfl ?_
  refine Gol.icmpNo X7 hx hby d16_321 324 rfl (tlt (by decide : (1 : Int32) < (2 : Int32))).2.1 ?_
  refine Gol.iload X7 hx hby d16_324 326 rfl rfl ?_
  refine Gol.iconst X7 hx hby d16_326 327 rfl (z := (1 : Int32)) rfl ?_
  refine Gol.iadd X7 hx hby d16_327 328 rfl (z := (1 : Int32)) rfl ?_
  refine Gol.goto X7 hx hby d16_328 332 (by decide) ?_
  refine Gol.istore X7 hx hby d16_332 334 rfl (l' := #[vr (A 0), vi 2, vi (-1), vd 4472406533629990549, ss, vi 1, vi 0, vi a, vd zp2, ss, vd zs2, ss]) rfl ?_
  refine Gol.iinc X7 hx hby d16_334 337 rfl rfl (l' := #[vr (A 0), vi 2, vi (-1), vd 4472406533629990549, ss, vi 1, vi 1, vi a, vd zp2, ss, vd zs2, ss]) rfl ?_
  refine Gol.goto X7 hx hby d16_337 181 (by decide) ?_
  refine Gol.iload X7 hx hby d16_181 183 rfl rfl ?_
  refine Gol.iloadN X7 hx hby d16_183 184 rfl rfl ?_
  refine Gol.icmpNo X7 hx hby d16_184 187 rfl (tlt (by decide : (1 : Int32) < (2 : Int32))).2.1 ?_
  refine Gol.iload X7 hx hby d16_187 189 rfl rfl ?_
  refine Gol.fB X7 hx hby hZ hown (w 34 _ rfl) e7 B_A0 5 d16_189 d16_190 193 rfl rfl rfl rfl ?_
  intro T8 X8 e8
  refine Gol.dia (S' := (T8.setTop (mkF m 200 #[vr (A 0), vi 2, vi (-1), vd 4472406533629990549, ss, vi 1, vi 1, vi a, vd zp2, ss, vd zs2, ss] []))) ?_ ?_
  · intro k
    by_cases hc193_9 : (1 : Int32) < pp
    · skip
      refine Gol.icmpYes X8 hx hby d16_193 200 (by decide) (tlt hc193_9).1 ?_
      exact k
    · skip
      refine Gol.icmpNo X8 hx hby d16_193 196 rfl (flt hc193_9).1 ?_
      refine Gol.iloadN X8 hx hby d16_196 197 rfl rfl ?_
      refine Gol.ifNo X8 hx hby d16_197 200 rfl ((if0 _ _).trans (tlt (by decide : (-1 : Int32) < (0 : Int32))).2.1) ?_
      exact k
  show GolF _ _ _ _ _ _ _ T8 m 200 #[vr (A 0), vi 2, vi (-1), vd 4472406533629990549, ss, vi 1, vi 1, vi a, vd zp2, ss, vd zs2, ss] []
  refine Gol.fB X8 hx hby hZ hown (w 44 _ rfl) e8 B_A0 10 d16_200 d16_201 204 rfl rfl rfl rfl ?_
  intro T10 X10 e10
  refine Gol.iload X10 hx hby d16_204 206 rfl rfl ?_
  refine Gol.iaload X10 hx hby hZ e10 (V_A4.keep K nn_A4) d16_206 207 rfl ⟨by decide, by decide⟩ (v := b) rfl ?_
  refine Gol.istore X10 hx hby d16_207 209 rfl (l' := #[vr (A 0), vi 2, vi (-1), vd 4472406533629990549, ss, vi 1, vi 1, vi b, vd zp2, ss, vd zs2, ss]) rfl ?_
  refine Gol.fB X10 hx hby hZ hown (w 67 _ rfl) e10 B_A0 14 d16_209 d16_210 213 rfl rfl rfl rfl ?_
  intro T11 X11 e11
  refine Gol.iload X11 hx hby d16_213 215 rfl rfl ?_
  refine Gol.iaload X11 hx hby hZ e11 (V_A7.keep K nn_A7) d16_215 216 rfl (own_in6 hb) (v := (sel b x0 x1)) (own_rI hb) ?_
  refine Gol.ifYes X11 hx hby d16_216 316 (by decide) ((if0 _ _).trans (flt hbb).2.1) ?_
  refine Gol.iload X11 hx hby d16_316 318 rfl rfl ?_
  refine Gol.iconst X11 hx hby d16_318 319 rfl (z := (1 : Int32)) rfl ?_
  refine Gol.iadd X11 hx hby d16_319 320 rfl (z := (2 : Int32)) rfl ?_
  refine Gol.iloadN X11 hx hby d16_320 321 rfl rfl ?_
  refine Gol.icmpYes X11 hx hby d16_321 331 (by decide) (flt (by decide : ¬ ((2 : Int32) < (2 : Int32)))).2.1 ?_
  refine Gol.iconst X11 hx hby d16_331 332 rfl (z := (0 : Int32)) rfl ?_
  refine Gol.istore X11 hx hby d16_332 334 rfl (l' := #[vr (A 0), vi 2, vi (-1), vd 4472406533629990549, ss, vi 0, vi 1, vi b, vd zp2, ss, vd zs2, ss]) rfl ?_
  refine Gol.iinc X11 hx hby d16_334 337 rfl rfl (l' := #[vr (A 0), vi 2, vi (-1), vd 4472406533629990549, ss, vi 0, vi 2, vi b, vd zp2, ss, vd zs2, ss]) rfl ?_
  refine Gol.goto X11 hx hby d16_337 181 (by decide) ?_
  refine Gol.iload X11 hx hby d16_181 183 rfl rfl ?_
  refine Gol.iloadN X11 hx hby d16_183 184 rfl rfl ?_
  refine Gol.icmpYes X11 hx hby d16_184 340 (by decide) (flt (by decide : ¬ ((2 : Int32) < (2 : Int32)))).2.1 ?_
  refine Gol.aloadN X11 hx hby d16_340 341 rfl rfl rfl ?_
  refine Gol.iload X11 hx hby d16_341 343 rfl rfl ?_
  refine Gol.putF X11 hx hby hZ hown (host := "") (Or.inl (w 125 _ rfl)) Via.refl e11 (B_A0 26 _ _ _ rfl rfl) E_A0 (Or.inl (w 126 _ rfl)) (w 9 _ rfl) (ty := .int) (by decide) rfl rfl d16_343 346 rfl ?_
  intro T12 h12 X12 e12 W12
  have K := K.wr W12 (Or.inl (List.mem_of_getElem? (i := 0) rfl))
  have B_A0 : FL Z h12 (A 0) (rxv A pp (0 : Int32) (0 : Int32) wk ps (3 : Int64) op) := B_A0.put LA (i0 := 26) rfl W12
  have N12 := Fr.snoc X12 N2 (G 0 rfl)
  refine Gol.iloadN X12 hx hby d16_346 347 rfl rfl ?_
  exact Gol.retI X12 hx hby Bd.returns Bd.notSynchronized d16_347 e12 ⟨rfl, N12, K, B_A0⟩ (by decide) (by decide)
abbrev dc19 (i : Nat) (x : Instr) (n : Nat) : Prop := decode prog_8_method_18_code i = .ok (x, n)
theorem d19_0 : dc19 0 (.iload_n 1) 1 := by decide +kernel
theorem d19_1 : dc19 1 (.aload_n 0) 1 := by decide +kernel
theorem d19_2 : dc19 2 (.getfield 54) 3 := by decide +kernel
theorem d19_5 : dc19 5 (.if_icmp .ge 85) 3 := by decide +kernel
theorem d19_8 : dc19 8 (.aload_n 0) 1 := by decide +kernel
theorem d19_9 : dc19 9 (.getfield 90) 3 := by decide +kernel
theorem d19_12 : dc19 12 (.dconst 0) 1 := by decide +kernel
theorem d19_13 : dc19 13 (.invokestatic 192) 3 := by decide +kernel
theorem d19_16 : dc19 16 (.aload_n 0) 1 := by decide +kernel
theorem d19_17 : dc19 17 (.getfield 57) 3 := by decide +kernel
theorem d19_20 : dc19 20 (.iload_n 1) 1 := by decide +kernel
theorem d19_21 : dc19 21 .iaload 1 := by decide +kernel
theorem d19_22 : dc19 22 (.istore_n 3) 1 := by decide +kernel
theorem d19_23 : dc19 23 (.iload_n 3) 1 := by decide +kernel
theorem d19_24 : dc19 24 (.aload_n 0) 1 := by decide +kernel
theorem d19_25 : dc19 25 (.getfield 57) 3 := by decide +kernel
theorem d19_28 : dc19 28 (.iload_n 1) 1 := by decide +kernel
theorem d19_29 : dc19 29 (.iconst 1) 1 := by decide +kernel
theorem d19_30 : dc19 30 .iadd 1 := by decide +kernel
theorem d19_31 : dc19 31 .iaload 1 := by decide +kernel
theorem d19_32 : dc19 32 (.if_icmp .ge 55) 3 := by decide +kernel
theorem d19_35 : dc19 35 (.aload_n 0) 1 := by decide +kernel
theorem d19_36 : dc19 36 (.getfield 81) 3 := by decide +kernel
theorem d19_39 : dc19 39 (.aload_n 0) 1 := by decide +kernel
theorem d19_40 : dc19 40 (.getfield 66) 3 := by decide +kernel
theorem d19_43 : dc19 43 (.iload_n 3) 1 := by decide +kernel
theorem d19_44 : dc19 44 .iaload 1 := by decide +kernel
theorem d19_45 : dc19 45 .aaload 1 := by decide +kernel
theorem d19_46 : dc19 46 (.astore 4) 2 := by decide +kernel
theorem d19_48 : dc19 48 (.iconst 0) 1 := by decide +kernel
theorem d19_49 : dc19 49 (.istore 5) 2 := by decide +kernel
theorem d19_51 : dc19 51 (.iload 5) 2 := by decide +kernel
theorem d19_53 : dc19 53 (.aload_n 0) 1 := by decide +kernel
theorem d19_54 : dc19 54 (.getfield 39) 3 := by decide +kernel
theorem d19_57 : dc19 57 (.if_icmp .ge 24) 3 := by decide +kernel
theorem d19_60 : dc19 60 (.aload_n 0) 1 := by decide +kernel
theorem d19_61 : dc19 61 (.getfield 90) 3 := by decide +kernel
theorem d19_64 : dc19 64 (.iload 5) 2 := by decide +kernel
theorem d19_66 : dc19 66 .dup2 1 := by decide +kernel
theorem d19_67 : dc19 67 .daload 1 := by decide +kernel
theorem d19_68 : dc19 68 (.aload 4) 2 := by decide +kernel
theorem d19_70 : dc19 70 (.iload 5) 2 := by decide +kernel
theorem d19_72 : dc19 72 .daload 1 := by decide +kernel
theorem d19_73 : dc19 73 .dadd 1 := by decide +kernel
theorem d19_74 : dc19 74 .dastore 1 := by decide +kernel
theorem d19_75 : dc19 75 (.iinc 5 1) 3 := by decide +kernel
theorem d19_78 : dc19 78 (.goto (-27)) 3 := by decide +kernel
theorem d19_81 : dc19 81 (.iinc 3 1) 3 := by decide +kernel
theorem d19_84 : dc19 84 (.goto (-61)) 3 := by decide +kernel
theorem d19_87 : dc19 87 (.goto 100) 3 := by decide +kernel
theorem d19_187 : dc19 187 (.dconst 1) 1 := by decide +kernel
theorem d19_188 : dc19 188 (.dstore_n 3) 1 := by decide +kernel
theorem d19_189 : dc19 189 (.dconst 0) 1 := by decide +kernel
theorem d19_190 : dc19 190 (.dstore 5) 2 := by decide +kernel
theorem d19_192 : dc19 192 (.iconst 0) 1 := by decide +kernel
theorem d19_193 : dc19 193 (.istore 7) 2 := by decide +kernel
theorem d19_195 : dc19 195 (.iload 7) 2 := by decide +kernel
theorem d19_197 : dc19 197 (.aload_n 0) 1 := by decide +kernel
theorem d19_198 : dc19 198 (.getfield 39) 3 := by decide +kernel
theorem d19_201 : dc19 201 (.if_icmp .ge 70) 3 := by decide +kernel
theorem d19_204 : dc19 204 (.dconst 0) 1 := by decide +kernel
theorem d19_205 : dc19 205 (.aload_n 0) 1 := by decide +kernel
theorem d19_206 : dc19 206 (.getfield 78) 3 := by decide +kernel
theorem d19_209 : dc19 209 (.iload 7) 2 := by decide +kernel
theorem d19_211 : dc19 211 .daload 1 := by decide +kernel
theorem d19_212 : dc19 212 (.invokestatic 141) 3 := by decide +kernel
theorem d19_215 : dc19 215 (.ldc2_w 147) 3 := by decide +kernel
theorem d19_218 : dc19 218 .dadd 1 := by decide +kernel
theorem d19_219 : dc19 219 (.dstore 8) 2 := by decide +kernel
theorem d19_221 : dc19 221 (.aload_n 0) 1 := by decide +kernel
theorem d19_222 : dc19 222 (.getfield 90) 3 := by decide +kernel
theorem d19_225 : dc19 225 (.iload 7) 2 := by decide +kernel
theorem d19_227 : dc19 227 .daload 1 := by decide +kernel
theorem d19_228 : dc19 228 (.ldc2_w 198) 3 := by decide +kernel
theorem d19_231 : dc19 231 (.dcmp .l) 1 := by decide +kernel
theorem d19_232 : dc19 232 (.ifCond .le 33) 3 := by decide +kernel
theorem d19_235 : dc19 235 (.dload 8) 2 := by decide +kernel
theorem d19_237 : dc19 237 (.dload 5) 2 := by decide +kernel
theorem d19_239 : dc19 239 .dmul 1 := by decide +kernel
theorem d19_240 : dc19 240 (.dload_n 3) 1 := by decide +kernel
theorem d19_241 : dc19 241 (.aload_n 0) 1 := by decide +kernel
theorem d19_242 : dc19 242 (.getfield 90) 3 := by decide +kernel
theorem d19_245 : dc19 245 (.iload 7) 2 := by decide +kernel
theorem d19_247 : dc19 247 .daload 1 := by decide +kernel
theorem d19_248 : dc19 248 .dmul 1 := by decide +kernel
theorem d19_249 : dc19 249 (.dcmp .g) 1 := by decide +kernel
theorem d19_250 : dc19 250 (.ifCond .gt 15) 3 := by decide +kernel
theorem d19_253 : dc19 253 (.dload 8) 2 := by decide +kernel
theorem d19_255 : dc19 255 (.dstore_n 3) 1 := by decide +kernel
theorem d19_256 : dc19 256 (.aload_n 0) 1 := by decide +kernel
theorem d19_257 : dc19 257 (.getfield 90) 3 := by decide +kernel
theorem d19_260 : dc19 260 (.iload 7) 2 := by decide +kernel
theorem d19_262 : dc19 262 .daload 1 := by decide +kernel
theorem d19_263 : dc19 263 (.dstore 5) 2 := by decide +kernel
theorem d19_265 : dc19 265 (.iinc 7 1) 3 := by decide +kernel
theorem d19_268 : dc19 268 (.goto (-73)) 3 := by decide +kernel
theorem d19_271 : dc19 271 (.iconst (-1)) 1 := by decide +kernel
theorem d19_272 : dc19 272 (.istore 7) 2 := by decide +kernel
theorem d19_274 : dc19 274 (.iconst 0) 1 := by decide +kernel
theorem d19_275 : dc19 275 (.istore 8) 2 := by decide +kernel
theorem d19_277 : dc19 277 (.iload 8) 2 := by decide +kernel
theorem d19_279 : dc19 279 (.aload_n 0) 1 := by decide +kernel
theorem d19_280 : dc19 280 (.getfield 39) 3 := by decide +kernel
theorem d19_283 : dc19 283 (.if_icmp .ge 113) 3 := by decide +kernel
theorem d19_286 : dc19 286 (.aload_n 0) 1 := by decide +kernel
theorem d19_287 : dc19 287 (.getfield 90) 3 := by decide +kernel
theorem d19_290 : dc19 290 (.iload 8) 2 := by decide +kernel
theorem d19_292 : dc19 292 .daload 1 := by decide +kernel
theorem d19_293 : dc19 293 (.ldc2_w 198) 3 := by decide +kernel
theorem d19_296 : dc19 296 (.dcmp .l) 1 := by decide +kernel
theorem d19_297 : dc19 297 (.ifCond .le 93) 3 := by decide +kernel
theorem d19_300 : dc19 300 (.dconst 0) 1 := by decide +kernel
theorem d19_301 : dc19 301 (.aload_n 0) 1 := by decide +kernel
theorem d19_302 : dc19 302 (.getfield 78) 3 := by decide +kernel
theorem d19_305 : dc19 305 (.iload 8) 2 := by decide +kernel
theorem d19_307 : dc19 307 .daload 1 := by decide +kernel
theorem d19_308 : dc19 308 (.invokestatic 141) 3 := by decide +kernel
theorem d19_311 : dc19 311 (.dload 5) 2 := by decide +kernel
theorem d19_313 : dc19 313 .dmul 1 := by decide +kernel
theorem d19_314 : dc19 314 (.dload_n 3) 1 := by decide +kernel
theorem d19_315 : dc19 315 (.aload_n 0) 1 := by decide +kernel
theorem d19_316 : dc19 316 (.getfield 90) 3 := by decide +kernel
theorem d19_319 : dc19 319 (.iload 8) 2 := by decide +kernel
theorem d19_321 : dc19 321 .daload 1 := by decide +kernel
theorem d19_322 : dc19 322 .dmul 1 := by decide +kernel
theorem d19_323 : dc19 323 (.dcmp .g) 1 := by decide +kernel
theorem d19_324 : dc19 324 (.ifCond .gt 66) 3 := by decide +kernel
theorem d19_327 : dc19 327 (.iload 7) 2 := by decide +kernel
theorem d19_329 : dc19 329 (.ifCond .lt 45) 3 := by decide +kernel
theorem d19_374 : dc19 374 (.iconst 1) 1 := by decide +kernel
theorem d19_375 : dc19 375 (.goto 4) 3 := by decide +kernel
theorem d19_379 : dc19 379 (.istore 9) 2 := by decide +kernel
theorem d19_381 : dc19 381 (.iload 9) 2 := by decide +kernel
theorem d19_383 : dc19 383 (.ifCond .eq 7) 3 := by decide +kernel
theorem d19_386 : dc19 386 (.iload 8) 2 := by decide +kernel
theorem d19_388 : dc19 388 (.istore 7) 2 := by decide +kernel
theorem d19_390 : dc19 390 (.iinc 8 1) 3 := by decide +kernel
theorem d19_393 : dc19 393 (.goto (-116)) 3 := by decide +kernel
theorem d19_396 : dc19 396 (.iload 7) 2 := by decide +kernel
theorem d19_398 : dc19 398 .ireturn 1 := by decide +kernel
theorem pn_19 : plainName "com/example/quorumstone/quorumstone/check/Relaxation" = true := by first | (simp [plainName, overriddenIn]; done) | decide +kernel
theorem ef_Lea0 (m : MethodId) (p1 : Int32) (A : Nat → Addr) : entryFrame m #[(.ref (A 0)), (.int p1), (.int 0)] 10 = mkF m 0 #[vr (A 0), vi p1, vi 0, uu, uu, uu, uu, uu, uu, uu] [] := by first | (simp [entryFrame, mkF, argsToLocals, Value.category]; done) | rfl
abbrev QLea0 (Z : State) (p1 : Int32) (A : Nat → Addr) (pp cc nx wk ps : Int32) (un : Int64) (op dc0 dc1 : Int32) (z0 z1 : Value) (h0 : Heap) (n0 : Nat) (v : Option Value) (h : Heap) (L : List Loc) : Prop := v = some (.int 0) ∧ Fr n0 L ∧ Keep h0 h [(A 15)] ∧ Vv Z h (A 15) .double (2 : Int32) [(.double 4607182418800017408), (.double 0)] (.double 0)
set_option maxRecDepth 65536 in
set_option maxHeartbeats 40000000 in
theorem rmLea0 (l : Launch) (Z : State) (a0 : Array Value) (hw : TW a0 Z) (ws : List Jvm.Cond) (p1 : Int32) (A : Nat → Addr) (pp cc nx wk ps : Int32) (un : Int64) (op dc0 dc1 : Int32) (z0 z1 : Value) (h0 : Heap) (n0 : Nat) (Zs : n0 ≤ h0.size) (D : DisA A) (G : FreA A n0) (B_A0 : FL Z h0 (A 0) (rxv A pp cc nx wk ps un op)) (E_A0 : Exa Z h0 (A 0) "com/example/quorumstone/quorumstone/check/Relaxation") (P5 : Vv Z h0 (A 5) .int (3 : Int32) [(.int 0), (.int 1), (.int 2)] (.int 0)) (P6 : Vv Z h0 (A 6) .int (2 : Int32) [(.int dc0), (.int dc1)] (.int 0)) (P9 : Vv Z h0 (A 9) .double (2 : Int32) [(.double 4607182418800017408), (.double 4607182418800017408)] (.double 0)) (P10 : Vv Z h0 (A 10) (.array .double) (2 : Int32) [(.ref (A 11)), (.ref (A 12))] .null) (P11 : Vv Z h0 (A 11) .double (2 : Int32) [(.double 4607182418800017408), (.double 0)] (.double 0)) (P12 : Vv Z h0 (A 12) .double (2 : Int32) [(.double 0), (.double 4607182418800017408)] (.double 0)) (P15 : Vv Z h0 (A 15) .double (2 : Int32) [z0, z1] (.double 0)) (ha : B01 p1) (hc : sel p1 dc0 dc1 = 0) :
    Mt l (⟨"com/example/quorumstone/quorumstone/check/Relaxation", "leavingRow", "(IZ)I"⟩ : MethodName) prog_8_method_18_code 10 (some .int) ws (rmm 1 0 0 16) #[(.ref (A 0)), (.int p1), (.int 0)] Z h0 (QLea0 Z p1 A pp cc nx wk ps un op dc0 dc1 z0 z1 h0 n0) 0 0 := by
  refine own_body n0 (plainFor_of_name pn_19) hw (fun m => ef_Lea0 m p1 A) ?_
  intro p ev s m below meth c s₁ Bd hZ hx hby hml hown X0 eh0 N0 w
  obtain ⟨k_A5, V_A5⟩ := P5
  obtain ⟨k_A6, V_A6⟩ := P6
  obtain ⟨k_A9, V_A9⟩ := P9
  obtain ⟨k_A10, V_A10⟩ := P10
  obtain ⟨k_A11, V_A11⟩ := P11
  obtain ⟨k_A12, V_A12⟩ := P12
  obtain ⟨k_A15, V_A15⟩ := P15
  have nn_A5 : (A 5) ∉ [(A 15)] := (nnA D 5 [15] rfl)
  have nn_A6 : (A 6) ∉ [(A 15)] := (nnA D 6 [15] rfl)
  have nn_A9 : (A 9) ∉ [(A 15)] := (nnA D 9 [15] rfl)
  have nn_A10 : (A 10) ∉ [(A 15)] := (nnA D 10 [15] rfl)
  have nn_A11 : (A 11) ∉ [(A 15)] := (nnA D 11 [15] rfl)
  have nn_A0 : (A 0) ∉ [(A 15)] := (nnA D 0 [15] rfl)
  have K := Keep.refl h0 [(A 15)]
  show GolF _ _ _ _ _ _ _ s₁ m 0 #[vr (A 0), vi p1, vi 0, uu, uu, uu, uu, uu, uu, uu] []
  refine Gol.iloadN X0 hx hby d19_0 1 rfl rfl ?_
  refine Gol.fB X0 hx hby hZ hown (w 46 _ rfl) eh0 B_A0 11 d19_1 d19_2 5 rfl rfl rfl rfl ?_
  intro T1 X1 e1
  refine Gol.icmpNo X1 hx hby d19_5 8 rfl (tlt (own_lt2 ha)).2.1 ?_
  refine Gol.fB X1 hx hby hZ hown (w 79 _ rfl) e1 B_A0 20 d19_8 d19_9 12 rfl rfl rfl rfl ?_
  intro T2 X2 e2
  refine Gol.dconst0 X2 hx hby d19_12 13 rfl (v := (0 : UInt64)) (by decide +kernel) ?_
  refine Gol.callS X2 hx hby hZ hown 0 [(.ref (A 15)), (.double 0)] (w 91 _ rfl) (w 92 _ rfl) (w 89 _ rfl) (w 93 _ rfl) (by decide) (rmFillD l Z a0 hw [] (A 15) (0 : UInt64) z0 z1 h0 n0 Zs ⟨_, V_A15⟩ (G 15 rfl)) (by decide) (by decide) e2 (by rw [hml]; rfl) (rest := []) (Nat.le_of_eq rfl) (by decide) (by decide) (lenOf pd_2 rfl) rfl d19_13 16 rfl ?_
  intro T3 v3 L3 X3 hQ3
  obtain ⟨rfl, Nq3, Kq3, kf3, V_A15⟩ := hQ3
  have N3 := Fr.app N0 Nq3
  have K := K.trans Kq3 (allS (Or.inl (List.mem_of_getElem? (i := 0) rfl)) all0)
  show GolF _ _ _ _ _ _ _ T3 m 16 #[vr (A 0), vi p1, vi 0, uu, uu, uu, uu, uu, uu, uu] []
  refine Gol.fB X3 hx hby hZ hown (w 48 _ rfl) rfl (B_A0.keep K nn_A0) 12 d19_16 d19_17 20 rfl rfl rfl rfl ?_
  intro T4 X4 e4
  refine Gol.iloadN X4 hx hby d19_20 21 rfl rfl ?_
  refine Gol.iaload X4 hx hby hZ e4 (V_A5.keep K nn_A5) d19_21 22 rfl (own_in3 ha) (v := p1) (own_ds0 ha) ?_
  refine Gol.istoreN X4 hx hby d19_22 23 rfl (l' := #[vr (A 0), vi p1, vi 0, vi p1, uu, uu, uu, uu, uu, uu]) rfl ?_
  refine Gol.iloadN X4 hx hby d19_23 24 rfl rfl ?_
  refine Gol.fB X4 hx hby hZ hown (w 48 _ rfl) e4 (B_A0.keep K nn_A0) 12 d19_24 d19_25 28 rfl rfl rfl rfl ?_
  intro T5 X5 e5
  refine Gol.iloadN X5 hx hby d19_28 29 rfl rfl ?_
  refine Gol.iconst X5 hx hby d19_29 30 rfl (z := (1 : Int32)) rfl ?_
  refine Gol.iadd X5 hx hby d19_30 31 rfl rfl ?_
  refine Gol.iaload X5 hx hby hZ e5 (V_A5.keep K nn_A5) d19_31 32 rfl (own_in31 ha) (v := (p1 + (1 : Int32))) (own_ds1 ha) ?_
  refine Gol.icmpNo X5 hx hby d19_32 35 rfl (tlt (own_lts ha)).2.1 ?_
  refine Gol.fB X5 hx hby hZ hown (w 73 _ rfl) e5 (B_A0.keep K nn_A0) 17 d19_35 d19_36 39 rfl rfl rfl rfl ?_
  intro T6 X6 e6
  refine Gol.fB X6 hx hby hZ hown (w 57 _ rfl) e6 (B_A0.keep K nn_A0) 13 d19_39 d19_40 43 rfl rfl rfl rfl ?_
  intro T7 X7 e7
  refine Gol.iloadN X7 hx hby d19_43 44 rfl rfl ?_
  refine Gol.iaload X7 hx hby hZ e7 (V_A6.keep K nn_A6) d19_44 45 rfl (own_in2 ha) (v := (0 : Int32)) ((own_rI ha).trans (congrArg Value.int hc)) ?_
  refine Gol.aaload X7 hx hby hZ e7 (V_A10.keep K nn_A10) d19_45 46 rfl rfl ⟨by decide, by decide⟩ (v := (.ref (A 11))) rfl ?_
  refine Gol.astore X7 hx hby d19_46 48 rfl rfl (l' := #[vr (A 0), vi p1, vi 0, vi p1, vr (A 11), uu, uu, uu, uu, uu]) rfl ?_
  refine Gol.iconst X7 hx hby d19_48 49 rfl (z := (0 : Int32)) rfl ?_
  refine Gol.istore X7 hx hby d19_49 51 rfl (l' := #[vr (A 0), vi p1, vi 0, vi p1, vr (A 11), vi 0, uu, uu, uu, uu]) rfl ?_
  refine Gol.iload X7 hx hby d19_51 53 rfl rfl ?_
  refine Gol.fB X7 hx hby hZ hown (w 36 _ rfl) e7 (B_A0.keep K nn_A0) 6 d19_53 d19_54 57 rfl rfl rfl rfl ?_
  intro T8 X8 e8
  refine Gol.icmpNo X8 hx hby d19_57 60 rfl (tlt (by decide : (0 : Int32) < (2 : Int32))).2.1 ?_
  refine Gol.fB X8 hx hby hZ hown (w 79 _ rfl) e8 (B_A0.keep K nn_A0) 20 d19_60 d19_61 64 rfl rfl rfl rfl ?_
  intro T9 X9 e9
  refine Gol.iload X9 hx hby d19_64 66 rfl rfl ?_
  refine Gol.dup2 X9 hx hby d19_66 67 rfl rfl rfl ?_
  refine Gol.daload X9 hx hby hZ e9 V_A15 d19_67 68 rfl ⟨by decide, by decide⟩ (v := (0 : UInt64)) rfl ?_
  refine Gol.aload X9 hx hby d19_68 70 rfl rfl rfl ?_
  refine Gol.iload X9 hx hby d19_70 72 rfl rfl ?_
  refine Gol.daload X9 hx hby hZ e9 (V_A11.keep K nn_A11) d19_72 73 rfl ⟨by decide, by decide⟩ (v := (4607182418800017408 : UInt64)) rfl ?_
  refine Gol.dadd X9 hx hby d19_73 74 rfl (v := (4607182418800017408 : UInt64)) (own_nn (by decide)) (by decide +kernel) ?_
  refine Gol.dastore X9 hx hby hZ e9 V_A15 d19_74 75 rfl ⟨by decide, by decide⟩ 0 rfl (Nat.le_of_ble_eq_true rfl) ?_
  intro T10 h10 X10 e10 W10 A10
  have V_A15 : Arv Z h10 (A 15) kf3 .double (2 : Int32) [(.double 4607182418800017408), (.double 0)] (.double 0) := A10
  have K := K.wr W10 (Or.inl (List.mem_of_getElem? (i := 0) rfl))
  have N10 := Fr.snoc X10 N3 (G 15 rfl)
  refine Gol.iinc X10 hx hby d19_75 78 rfl rfl (l' := #[vr (A 0), vi p1, vi 0, vi p1, vr (A 11), vi 1, uu, uu, uu, uu]) rfl ?_
  refine Gol.goto X10 hx hby d19_78 51 (by decide) ?_
  refine Gol.iload X10 hx hby d19_51 53 rfl rfl ?_
  refine Gol.fB X10 hx hby hZ hown (w 36 _ rfl) e10 (B_A0.keep K nn_A0) 6 d19_53 d19_54 57 rfl rfl rfl rfl ?_
  intro T11 X11 e11
  refine Gol.icmpNo X11 hx hby d19_57 60 rfl (tlt (by decide : (1 : Int32) < (2 : Int32))).2.1 ?_
  refine Gol.fB X11 hx hby hZ hown (w 79 _ rfl) e11 (B_A0.keep K nn_A0) 20 d19_60 d19_61 64 rfl rfl rfl rfl ?_
  intro T12 X12 e12
  refine Gol.iload X12 hx hby d19_64 66 rfl rfl ?_
  refine Gol.dup2 X12 hx hby d19_66 67 rfl rfl rfl ?_
  refine Gol.daload X12 hx hby hZ e12 V_A15 d19_67 68 rfl ⟨by decide, by decide⟩ (v := (0 : UInt64)) rfl ?_
  refine Gol.aload X12 hx hby d19_68 70 rfl rfl rfl ?_
  refine Gol.iload X12 hx hby d19_70 72 rfl rfl ?_
  refine Gol.daload X12 hx hby hZ e12 (V_A11.keep K nn_A11) d19_72 73 rfl ⟨by decide, by decide⟩ (v := (0 : UInt64)) rfl ?_
  refine Gol.dadd X12 hx hby d19_73 74 rfl (v := (0 : UInt64)) (own_nn (by decide)) (by decide +kernel) ?_
  refine Gol.dastore X12 hx hby hZ e12 V_A15 d19_74 75 rfl ⟨by decide, by decide⟩ 1 rfl (Nat.le_of_ble_eq_true rfl) ?_
  intro T13 h13 X13 e13 W13 A13
  have V_A15 : Arv Z h13 (A 15) kf3 .double (2 : Int32) [(.double 4607182418800017408), (.double 0)] (.double 0) := A13
  have K := K.wr W13 (Or.inl (List.mem_of_getElem? (i := 0) rfl))
  have N13 := Fr.snoc X13 N10 (G 15 rfl)
  refine Gol.iinc X13 hx hby d19_75 78 rfl rfl (l' := #[vr (A 0), vi p1, vi 0, vi p1, vr (A 11), vi 2, uu, uu, uu, uu]) rfl ?_
  refine Gol.goto X13 hx hby d19_78 51 (by decide) ?_
  refine Gol.iload X13 hx hby d19_51 53 rfl rfl ?_
  refine Gol.fB X13 hx hby hZ hown (w 36 _ rfl) e13 (B_A0.keep K nn_A0) 6 d19_53 d19_54 57 rfl rfl rfl rfl ?_
  intro T14 X14 e14
  refine Gol.icmpYes X14 hx hby d19_57 81 (by decide) (flt (by decide : ¬ ((2 : Int32) < (2 : Int32)))).2.1 ?_
  refine Gol.iinc X14 hx hby d19_81 84 rfl rfl (l' := #[vr (A 0), vi p1, vi 0, vi (p1 + (1 : Int32)), vr (A 11), vi 2, uu, uu, uu, uu]) rfl ?_
  refine Gol.goto X14 hx hby d19_84 23 (by decide) ?_
  refine Gol.iloadN X14 hx hby d19_23 24 rfl rfl ?_
  refine Gol.fB X14 hx hby hZ hown (w 48 _ rfl) e14 (B_A0.keep K nn_A0) 12 d19_24 d19_25 28 rfl rfl rfl rfl ?_
  intro T15 X15 e15
  refine Gol.iloadN X15 hx hby d19_28 29 rfl rfl ?_
  refine Gol.iconst X15 hx hby d19_29 30 rfl (z := (1 : Int32)) rfl ?_
  refine Gol.iadd X15 hx hby d19_30 31 rfl rfl ?_
  refine Gol.iaload X15 hx hby hZ e15 (V_A5.keep K nn_A5) d19_31 32 rfl (own_in31 ha) (v := (p1 + (1 : Int32))) (own_ds1 ha) ?_
  refine Gol.icmpYes X15 hx hby d19_32 87 (by decide) (flt Int32.lt_irrefl).2.1 ?_
  refine Gol.goto X15 hx hby d19_87 187 (by decide) ?_
  refine Gol.dconst1 X15 hx hby d19_187 188 rfl (v := (4607182418800017408 : UInt64)) (by decide +kernel) ?_
  refine Gol.dstoreN X15 hx hby d19_188 189 rfl (l' := #[vr (A 0), vi p1, vi 0, vd 4607182418800017408, ss, vi 2, uu, uu, uu, uu]) rfl ?_
  refine Gol.dconst0 X15 hx hby d19_189 190 rfl (v := (0 : UInt64)) (by decide +kernel) ?_
  refine Gol.dstore X15 hx hby d19_190 192 rfl (l' := #[vr (A 0), vi p1, vi 0, vd 4607182418800017408, ss, vd 0, ss, uu, uu, uu]) rfl ?_
  refine Gol.iconst X15 hx hby d19_192 193 rfl (z := (0 : Int32)) rfl ?_
  refine Gol.istore X15 hx hby d19_193 195 rfl (l' := #[vr (A 0), vi p1, vi 0, vd 4607182418800017408, ss, vd 0, ss, vi 0, uu, uu]) rfl ?_
  refine Gol.iload X15 hx hby d19_195 197 rfl rfl ?_
  refine Gol.fB X15 hx hby hZ hown (w 36 _ rfl) e15 (B_A0.keep K nn_A0) 6 d19_197 d19_198 201 rfl rfl rfl rfl ?_
  intro T16 X16 e16
  refine Gol.icmpNo X16 hx hby d19_201 204 rfl (tlt (by decide : (0 : Int32) < (2 : Int32))).2.1 ?_
  refine Gol.dconst0 X16 hx hby d19_204 205 rfl (v := (0 : UInt64)) (by decide +kernel) ?_
  refine Gol.fB X16 hx hby hZ hown (w 71 _ rfl) e16 (B_A0.keep K nn_A0) 16 d19_205 d19_206 209 rfl rfl rfl rfl ?_
  intro T17 X17 e17
  refine Gol.iload X17 hx hby d19_209 211 rfl rfl ?_
  refine Gol.daload X17 hx hby hZ e17 (V_A9.keep K nn_A9) d19_211 212 rfl ⟨by decide, by decide⟩ (v := (4607182418800017408 : UInt64)) rfl ?_
  refine Gol.maxD X17 hx hby hZ hown (w 120 _ rfl) (w 121 _ rfl) (w 3 _ rfl) (w 122 _ rfl) e17 0 d19_212 215 rfl (by rw [hml]; rfl) (Nat.le_of_eq rfl) (by decide) (by decide) (by decide) (by decide) (own_nn (by decide)) (own_nn (by decide)) (v := (4607182418800017408 : UInt64)) (by decide +kernel) ?_
  intro T18 X18 e18
  refine Gol.ldc2Double X18 hx hby hZ hown d19_215 218 rfl (w 131 _ rfl) ?_
  refine Gol.dadd X18 hx hby d19_218 219 rfl (v := (4607182418804521008 : UInt64)) (own_nn (by decide)) (by decide +kernel) ?_
  refine Gol.dstore X18 hx hby d19_219 221 rfl (l' := #[vr (A 0), vi p1, vi 0, vd 4607182418800017408, ss, vd 0, ss, vi 0, vd 4607182418804521008, ss]) rfl ?_
  refine Gol.fB X18 hx hby hZ hown (w 79 _ rfl) e18 (B_A0.keep K nn_A0) 20 d19_221 d19_222 225 rfl rfl rfl rfl ?_
  intro T19 X19 e19
  refine Gol.iload X19 hx hby d19_225 227 rfl rfl ?_
  refine Gol.daload X19 hx hby hZ e19 V_A15 d19_227 228 rfl ⟨by decide, by decide⟩ (v := (4607182418800017408 : UInt64)) rfl ?_
  refine Gol.ldc2Double X19 hx hby hZ hown d19_228 231 rfl (w 151 _ rfl) ?_
  refine Gol.dcmp X19 hx hby d19_231 232 rfl (v := (1 : Int32)) (by decide +kernel) ?_
  refine Gol.ifNo X19 hx hby d19_232 235 rfl ((if0 _ _).trans (tlt (by decide : (0 : Int32) < (1 : Int32))).2.2.2) ?_
  refine Gol.dload X19 hx hby d19_235 237 rfl rfl ?_
  refine Gol.dload X19 hx hby d19_237 239 rfl rfl ?_
  refine Gol.dmul X19 hx hby d19_239 240 rfl (v := (0 : UInt64)) (own_nn (by decide)) (by decide +kernel) ?_
  refine Gol.dloadN X19 hx hby d19_240 241 rfl rfl ?_
  refine Gol.fB X19 hx hby hZ hown (w 79 _ rfl) e19 (B_A0.keep K nn_A0) 20 d19_241 d19_242 245 rfl rfl rfl rfl ?_
  intro T20 X20 e20
  refine Gol.iload X20 hx hby d19_245 247 rfl rfl ?_
  refine Gol.daload X20 hx hby hZ e20 V_A15 d19_247 248 rfl ⟨by decide, by decide⟩ (v := (4607182418800017408 : UInt64)) rfl ?_
  refine Gol.dmul X20 hx hby d19_248 249 rfl (v := (4607182418800017408 : UInt64)) (own_nn (by decide)) (by decide +kernel) ?_
  refine Gol.dcmp X20 hx hby d19_249 250 rfl (v := (-1 : Int32)) (by decide +kernel) ?_
  refine Gol.ifNo X20 hx hby d19_250 253 rfl ((if0 _ _).trans (flt (by decide : ¬ ((0 : Int32) < (-1 : Int32)))).2.2.1) ?_
  refine Gol.dload X20 hx hby d19_253 255 rfl rfl ?_
  refine Gol.dstoreN X20 hx hby d19_255 256 rfl (l' := #[vr (A 0), vi p1, vi 0, vd 4607182418804521008, ss, vd 0, ss, vi 0, vd 4607182418804521008, ss]) rfl ?_
  refine Gol.fB X20 hx hby hZ hown (w 79 _ rfl) e20 (B_A0.keep K nn_A0) 20 d19_256 d19_257 260 rfl rfl rfl rfl ?_
  intro T21 X21 e21
  refine Gol.iload X21 hx hby d19_260 262 rfl rfl ?_
  refine Gol.daload X21 hx hby hZ e21 V_A15 d19_262 263 rfl ⟨by decide, by decide⟩ (v := (4607182418800017408 : UInt64)) rfl ?_
  refine Gol.dstore X21 hx hby d19_263 265 rfl (l' := #[vr (A 0), vi p1, vi 0, vd 4607182418804521008, ss, vd 4607182418800017408, ss, vi 0, vd 4607182418804521008, ss]) rfl ?_
  refine Gol.iinc X21 hx hby d19_265 268 rfl rfl (l' := #[vr (A 0), vi p1, vi 0, vd 4607182418804521008, ss, vd 4607182418800017408, ss, vi 1, vd 4607182418804521008, ss]) rfl ?_
  refine Gol.goto X21 hx hby d19_268 195 (by decide) ?_
  refine Gol.iload X21 hx hby d19_195 197 rfl rfl ?_
  refine Gol.fB X21 hx hby hZ hown (w 36 _ rfl) e21 (B_A0.keep K nn_A0) 6 d19_197 d19_198 201 rfl rfl rfl rfl ?_
  intro T22 X22 e22
  refine Gol.icmpNo X22 hx hby d19_201 204 rfl (tlt (by decide : (1 : Int32) < (2 : Int32))).2.1 ?_
  refine Gol.dconst0 X22 hx hby d19_204 205 rfl (v := (0 : UInt64)) (by decide +kernel) ?_
  refine Gol.fB X22 hx hby hZ hown (w 71 _ rfl) e22 (B_A0.keep K nn_A0) 16 d19_205 d19_206 209 rfl rfl rfl rfl ?_
  intro T23 X23 e23
  refine Gol.iload X23 hx hby d19_209 211 rfl rfl ?_
  refine Gol.daload X23 hx hby hZ e23 (V_A9.keep K nn_A9) d19_211 212 rfl ⟨by decide, by decide⟩ (v := (4607182418800017408 : UInt64)) rfl ?_
  refine Gol.maxD X23 hx hby hZ hown (w 120 _ rfl) (w 121 _ rfl) (w 3 _ rfl) (w 122 _ rfl) e23 0 d19_212 215 rfl (by rw [hml]; rfl) (Nat.le_of_eq rfl) (by decide) (by decide) (by decide) (by decide) (own_nn (by decide)) (own_nn (by decide)) (v := (4607182418800017408 : UInt64)) (by decide +kernel) ?_
  intro T24 X24 e24
  refine Gol.ldc2Double X24 hx hby hZ hown d19_215 218 rfl (w 131 _ rfl) ?_
  refine Gol.dadd X24 hx hby d19_218 219 rfl (v := (4607182418804521008 : UInt64)) (own_nn (by decide)) (by decide +kernel) ?_
  refine Gol.dstore X24 hx hby d19_219 221 rfl (l' := #[vr (A 0), vi p1, vi 0, vd 4607182418804521008, ss, vd 4607182418800017408, ss, vi 1, vd 4607182418804521008, ss]) rfl ?_
  refine Gol.fB X24 hx hby hZ hown (w 79 _ rfl) e24 (B_A0.keep K nn_A0) 20 d19_221 d19_222 225 rfl rfl rfl rfl ?_
  intro T25 X25 e25
  refine Gol.iload X25 hx hby d19_225 227 rfl rfl ?_
  refine Gol.daload X25 hx hby hZ e25 V_A15 d19_227 228 rfl ⟨by decide, by decide⟩ (v := (0 : UInt64)) rfl ?_
  refine Gol.ldc2Double X25 hx hby hZ hown d19_228 231 rfl (w 151 _ rfl) ?_
  refine Gol.dcmp X25 hx hby d19_231 232 rfl (v := (-1 : Int32)) (by decide +kernel) ?_
  refine Gol.ifYes X25 hx hby d19_232 265 (by decide) ((if0 _ _).trans (flt (by decide : ¬ ((0 : Int32) < (-1 : Int32)))).2.2.2) ?_
  refine Gol.iinc X25 hx hby d19_265 268 rfl rfl (l' := #[vr (A 0), vi p1, vi 0, vd 4607182418804521008, ss, vd 4607182418800017408, ss, vi 2, vd 4607182418804521008, ss]) rfl ?_
  refine Gol.goto X25 hx hby d19_268 195 (by decide) ?_
  refine Gol.iload X25 hx hby d19_195 197 rfl rfl ?_
  refine Gol.fB X25 hx hby hZ hown (w 36 _ rfl) e25 (B_A0.keep K nn_A0) 6 d19_197 d19_198 201 rfl rfl rfl rfl ?_
  intro T26 X26 e26
  refine Gol.icmpYes X26 hx hby d19_201 271 (by decide) (flt (by decide : ¬ ((2 : Int32) < (2 : Int32)))).2.1 ?_
  refine Gol.iconst X26 hx hby d19_271 272 rfl (z := (-1 : Int32)) rfl ?_
  refine Gol.istore X26 hx hby d19_272 274 rfl (l' := #[vr (A 0), vi p1, vi 0, vd 4607182418804521008, ss, vd 4607182418800017408, ss, vi (-1), vd 4607182418804521008, ss]) rfl ?_
  refine Gol.iconst X26 hx hby d19_274 275 rfl (z := (0 : Int32)) rfl ?_
  refine Gol.istore X26 hx hby d19_275 277 rfl (l' := #[vr (A 0), vi p1, vi 0, vd 4607182418804521008, ss, vd 4607182418800017408, ss, vi (-1), vi 0, uu]) rfl ?_
  refine Gol.iload X26 hx hby d19_277 279 rfl rfl ?_
  refine Gol.fB X26 hx hby hZ hown (w 36 _ rfl) e26 (B_A0.keep K nn_A0) 6 d19_279 d19_280 283 rfl rfl rfl rfl ?_
  intro T27 X27 e27
  refine Gol.icmpNo X27 hx hby d19_283 286 rfl (tlt (by decide : (0 : Int32) < (2 : Int32))).2.1 ?_
  refine Gol.fB X27 hx hby hZ hown (w 79 _ rfl) e27 (B_A0.keep K nn_A0) 20 d19_286 d19_287 290 rfl rfl rfl rfl ?_
  intro T28 X28 e28
  refine Gol.iload X28 hx hby d19_290 292 rfl rfl ?_
  refine Gol.daload X28 hx hby hZ e28 V_A15 d19_292 293 rfl ⟨by decide, by decide⟩ (v := (4607182418800017408 : UInt64)) rfl ?_
  refine Gol.ldc2Double X28 hx hby hZ hown d19_293 296 rfl (w 151 _ rfl) ?_
  refine Gol.dcmp X28 hx hby d19_296 297 rfl (v := (1 : Int32)) (by decide +kernel) ?_
  refine Gol.ifNo X28 hx hby d19_297 300 rfl ((if0 _ _).trans (tlt (by decide : (0 : Int32) < (1 : Int32))).2.2.2) ?_
  refine Gol.dconst0 X28 hx hby d19_300 301 rfl (v := (0 : UInt64)) (by decide +kernel) ?_
  refine Gol.fB X28 hx hby hZ hown (w 71 _ rfl) e28 (B_A0.keep K nn_A0) 16 d19_301 d19_302 305 rfl rfl rfl rfl ?_
  intro T29 X29 e29
  refine Gol.iload X29 hx hby d19_305 307 rfl rfl ?_
  refine Gol.daload X29 hx hby hZ e29 (V_A9.keep K nn_A9) d19_307 308 rfl ⟨by decide, by decide⟩ (v := (4607182418800017408 : UInt64)) rfl ?_
  refine Gol.maxD X29 hx hby hZ hown (w 120 _ rfl) (w 121 _ rfl) (w 3 _ rfl) (w 122 _ rfl) e29 0 d19_308 311 rfl (by rw [hml]; rfl) (Nat.le_of_eq rfl) (by decide) (by decide) (by decide) (by decide) (own_nn (by decide)) (own_nn (by decide)) (v := (4607182418800017408 : UInt64)) (by decide +kernel) ?_
  intro T30 X30 e30
  refine Gol.dload X30 hx hby d19_311 313 rfl rfl ?_
  refine Gol.dmul X30 hx hby d19_313 314 rfl (v := (4607182418800017408 : UInt64)) (own_nn (by decide)) (by decide +kernel) ?_
  refine Gol.dloadN X30 hx hby d19_314 315 rfl rfl ?_
  refine Gol.fB X30 hx hby hZ hown (w 79 _ rfl) e30 (B_A0.keep K nn_A0) 20 d19_315 d19_316 319 rfl rfl rfl rfl ?_
  intro T31 X31 e31
  refine Gol.iload X31 hx hby d19_319 321 rfl rfl ?_
  refine Gol.daload X31 hx hby hZ e31 V_A15 d19_321 322 rfl ⟨by decide, by decide⟩ (v := (4607182418800017408 : UInt64)) rfl ?_
  refine Gol.dmul X31 hx hby d19_322 323 rfl (v := (4607182418804521008 : UInt64)) (own_nn (by decide)) (by decide +kernel) ?_
  refine Gol.dcmp X31 hx hby d19_323 324 rfl (v := (-1 : Int32)) (by decide +kernel) ?_
  refine Gol.ifNo X31 hx hby d19_324 327 rfl ((if0 _ _).trans (flt (by decide : ¬ ((0 : Int32) < (-1 : Int32)))).2.2.1) ?_
  refine Gol.iload X31 hx hby d19_327 329 rfl rfl ?_
  refine Gol.ifYes X31 hx hby d19_329 374 (by decide) ((if0 _ _).trans (tlt (by decide : (-1 : Int32) < (0 : Int32))).1) ?_
  refine Gol.iconst X31 hx hby d19_374 375 rfl (z := (1 : Int32)) rfl ?_
  refine Gol.goto X31 hx hby d19_375 379 (by decide) ?_
  refine Gol.istore X31 hx hby d19_379 381 rfl (l' := #[vr (A 0), vi p1, vi 0, vd 4607182418804521008, ss, vd 4607182418800017408, ss, vi (-1), vi 0, vi 1]) rfl ?_
  refine Gol.iload X31 hx hby d19_381 383 rfl rfl ?_
  refine Gol.ifNo X31 hx hby d19_383 386 rfl ((if0 _ _).trans (feq (by decide : ¬ ((1 : Int32) = (0 : Int32)))).1) ?_
  refine Gol.iload X31 hx hby d19_386 388 rfl rfl ?_
  refine Gol.istore X31 hx hby d19_388 390 rfl (l' := #[vr (A 0), vi p1, vi 0, vd 4607182418804521008, ss, vd 4607182418800017408, ss, vi 0, vi 0, vi 1]) rfl ?_
  refine Gol.iinc X31 hx hby d19_390 393 rfl rfl (l' := #[vr (A 0), vi p1, vi 0, vd 4607182418804521008, ss, vd 4607182418800017408, ss, vi 0, vi 1, vi 1]) rfl ?_
  refine Gol.goto X31 hx hby d19_393 277 (by decide) ?_
  refine Gol.iload X31 hx hby d19_277 279 rfl rfl ?_
  refine Gol.fB X31 hx hby hZ hown (w 36 _ rfl) e31 (B_A0.keep K nn_A0) 6 d19_279 d19_280 283 rfl rfl rfl rfl ?_
  intro T32 X32 e32
  refine Gol.icmpNo X32 hx hby d19_283 286 rfl (tlt (by decide : (1 : Int32) < (2 : Int32))).2.1 ?_
  refine Gol.fB X32 hx hby hZ hown (w 79 _ rfl) e32 (B_A0.keep K nn_A0) 20 d19_286 d19_287 290 rfl rfl rfl rfl ?_
  intro T33 X33 e33
  refine Gol.iload X33 hx hby d19_290 292 rfl rfl ?_
  refine Gol.daload X33 hx hby hZ e33 V_A15 d19_292 293 rfl ⟨by decide, by decide⟩ (v := (0 : UInt64)) rfl ?_
  refine Gol.ldc2Double X33 hx hby hZ hown d19_293 296 rfl (w 151 _ rfl) ?_
  refine Gol.dcmp X33 hx hby d19_296 297 rfl (v := (-1 : Int32)) (by decide +kernel) ?_
  refine Gol.ifYes X33 hx hby d19_297 390 (by decide) ((if0 _ _).trans (flt (by decide : ¬ ((0 : Int32) < (-1 : Int32)))).2.2.2) ?_
  refine Gol.iinc X33 hx hby d19_390 393 rfl rfl (l' := #[vr (A 0), vi p1, vi 0, vd 4607182418804521008, ss, vd 4607182418800017408, ss, vi 0, vi 2, vi 1]) rfl ?_
  refine Gol.goto X33 hx hby d19_393 277 (by decide) ?_
  refine Gol.iload X33 hx hby d19_277 279 rfl rfl ?_
  refine Gol.fB X33 hx hby hZ hown (w 36 _ rfl) e33 (B_A0.keep K nn_A0) 6 d19_279 d19_280 283 rfl rfl rfl rfl ?_
  intro T34 X34 e34
  refine Gol.icmpYes X34 hx hby d19_283 396 (by decide) (flt (by decide : ¬ ((2 : Int32) < (2 : Int32)))).2.1 ?_
  refine Gol.iload X34 hx hby d19_396 398 rfl rfl ?_
  exact Gol.retI X34 hx hby Bd.returns Bd.notSynchronized d19_398 e34 ⟨rfl, N13, K, ⟨_, V_A15⟩⟩ (by decide) (by decide)
theorem ef_Lea1 (m : MethodId) (p1 : Int32) (A : Nat → Addr) : entryFrame m #[(.ref (A 0)), (.int p1), (.int 0)] 10 = mkF m 0 #[vr (A 0), vi p1, vi 0, uu, uu, uu, uu, uu, uu, uu] [] := by first | (simp [entryFrame, mkF, argsToLocals, Value.category]; done) | rfl
abbrev QLea1 (Z : State) (p1 : Int32) (A : Nat → Addr) (pp cc nx wk ps : Int32) (un : Int64) (op dc0 dc1 : Int32) (z0 z1 : Value) (h0 : Heap) (n0 : Nat) (v : Option Value) (h : Heap) (L : List Loc) : Prop := v = some (.int 1) ∧ Fr n0 L ∧ Keep h0 h [(A 15)] ∧ Vv Z h (A 15) .double (2 : Int32) [(.double 0), (.double 4607182418800017408)] (.double 0)
set_option maxRecDepth 65536 in
set_option maxHeartbeats 40000000 in
theorem rmLea1 (l : Launch) (Z : State) (a0 : Array Value) (hw : TW a0 Z) (ws : List Jvm.Cond) (p1 : Int32) (A : Nat → Addr) (pp cc nx wk ps : Int32) (un : Int64) (op dc0 dc1 : Int32) (z0 z1 : Value) (h0 : Heap) (n0 : Nat) (Zs : n0 ≤ h0.size) (D : DisA A) (G : FreA A n0) (B_A0 : FL Z h0 (A 0) (rxv A pp cc nx wk ps un op)) (E_A0 : Exa Z h0 (A 0) "com/example/quorumstone/quorumstone/check/Relaxation") (P5 : Vv Z h0 (A 5) .int (3 : Int32) [(.int 0), (.int 1), (.int 2)] (.int 0)) (P6 : Vv Z h0 (A 6) .int (2 : Int32) [(.int dc0), (.int dc1)] (.int 0)) (P9 : Vv Z h0 (A 9) .double (2 : Int32) [(.double 4607182418800017408), (.double 4607182418800017408)] (.double 0)) (P10 : Vv Z h0 (A 10) (.array .double) (2 : Int32) [(.ref (A 11)), (.ref (A 12))] .null) (P11 : Vv Z h0 (A 11) .double (2 : Int32) [(.double 4607182418800017408), (.double 0)] (.double 0)) (P12 : Vv Z h0 (A 12) .double (2 : Int32) [(.double 0), (.double 4607182418800017408)] (.double 0)) (P15 : Vv Z h0 (A 15) .double (2 : Int32) [z0, z1] (.double 0)) (ha : B01 p1) (hc : sel p1 dc0 dc1 = 1) :
    Mt l (⟨"com/example/quorumstone/quorumstone/check/Relaxation", "leavingRow", "(IZ)I"⟩ : MethodName) prog_8_method_18_code 10 (some .int) ws (rmm 1 0 0 16) #[(.ref (A 0)), (.int p1), (.int 0)] Z h0 (QLea1 Z p1 A pp cc nx wk ps un op dc0 dc1 z0 z1 h0 n0) 0 0 := by
  refine own_body n0 (plainFor_of_name pn_19) hw (fun m => ef_Lea1 m p1 A) ?_
  intro p ev s m below meth c s₁ Bd hZ hx hby hml hown X0 eh0 N0 w
  obtain ⟨k_A5, V_A5⟩ := P5
  obtain ⟨k_A6, V_A6⟩ := P6
  obtain ⟨k_A9, V_A9⟩ := P9
  obtain ⟨k_A10, V_A10⟩ := P10
  obtain ⟨k_A11, V_A11⟩ := P11
  obtain ⟨k_A12, V_A12⟩ := P12
  obtain ⟨k_A15, V_A15⟩ := P15
  have nn_A5 : (A 5) ∉ [(A 15)] := (nnA D 5 [15] rfl)
  have nn_A6 : (A 6) ∉ [(A 15)] := (nnA D 6 [15] rfl)
  have nn_A9 : (A 9) ∉ [(A 15)] := (nnA D 9 [15] rfl)
  have nn_A10 : (A 10) ∉ [(A 15)] := (nnA D 10 [15] rfl)
  have nn_A12 : (A 12) ∉ [(A 15)] := (nnA D 12 [15] rfl)
  have nn_A0 : (A 0) ∉ [(A 15)] := (nnA D 0 [15] rfl)
  have K := Keep.refl h0 [(A 15)]
  show GolF _ _ _ _ _ _ _ s₁ m 0 #[vr (A 0), vi p1, vi 0, uu, uu, uu, uu, uu, uu, uu] []
  refine Gol.iloadN X0 hx hby d19_0 1 rfl rfl ?_
  refine Gol.fB X0 hx hby hZ hown (w 46 _ rfl) eh0 B_A0 11 d19_1 d19_2 5 rfl rfl rfl rfl ?_
  intro T1 X1 e1
  refine Gol.icmpNo X1 hx hby d19_5 8 rfl (tlt (own_lt2 ha)).2.1 ?_
  refine Gol.fB X1 hx hby hZ hown (w 79 _ rfl) e1 B_A0 20 d19_8 d19_9 12 rfl rfl rfl rfl ?_
  intro T2 X2 e2
  refine Gol.dconst0 X2 hx hby d19_12 13 rfl (v := (0 : UInt64)) (by decide +kernel) ?_
  refine Gol.callS X2 hx hby hZ hown 0 [(.ref (A 15)), (.double 0)] (w 91 _ rfl) (w 92 _ rfl) (w 89 _ rfl) (w 93 _ rfl) (by decide) (rmFillD l Z a0 hw [] (A 15) (0 : UInt64) z0 z1 h0 n0 Zs ⟨_, V_A15⟩ (G 15 rfl)) (by decide) (by decide) e2 (by rw [hml]; rfl) (rest := []) (Nat.le_of_eq rfl) (by decide) (by decide) (lenOf pd_2 rfl) rfl d19_13 16 rfl ?_
  intro T3 v3 L3 X3 hQ3
  obtain ⟨rfl, Nq3, Kq3, kf3, V_A15⟩ := hQ3
  have N3 := Fr.app N0 Nq3
  have K := K.trans Kq3 (allS (Or.inl (List.mem_of_getElem? (i := 0) rfl)) all0)
  show GolF _ _ _ _ _ _ _ T3 m 16 #[vr (A 0), vi p1, vi 0, uu, uu, uu, uu, uu, uu, uu] []
  refine Gol.fB X3 hx hby hZ hown (w 48 _ rfl) rfl (B_A0.keep K nn_A0) 12 d19_16 d19_17 20 rfl rfl rfl rfl ?_
  intro T4 X4 e4
  refine Gol.iloadN X4 hx hby d19_20 21 rfl rfl ?_
  refine Gol.iaload X4 hx hby hZ e4 (V_A5.keep K nn_A5) d19_21 22 rfl (own_in3 ha) (v := p1) (own_ds0 ha) ?_
  refine Gol.istoreN X4 hx hby d19_22 23 rfl (l' := #[vr (A 0), vi p1, vi 0, vi p1, uu, uu, uu, uu, uu, uu]) rfl ?_
  refine Gol.iloadN X4 hx hby d19_23 24 rfl rfl ?_
  refine Gol.fB X4 hx hby hZ hown (w 48 _ rfl) e4 (B_A0.keep K nn_A0) 12 d19_24 d19_25 28 rfl rfl rfl rfl ?_
  intro T5 X5 e5
  refine Gol.iloadN X5 hx hby d19_28 29 rfl rfl ?_
  refine Gol.iconst X5 hx hby d19_29 30 rfl (z := (1 : Int32)) rfl ?_
  refine Gol.iadd X5 hx hby d19_30 31 rfl rfl ?_
  refine Gol.iaload X5 hx hby hZ e5 (V_A5.keep K nn_A5) d19_31 32 rfl (own_in31 ha) (v := (p1 + (1 : Int32))) (own_ds1 ha) ?_
  refine Gol.icmpNo X5 hx hby d19_32 35 rfl (tlt (own_lts ha)).2.1 ?_
  refine Gol.fB X5 hx hby hZ hown (w 73 _ rfl) e5 (B_A0.keep K nn_A0) 17 d19_35 d19_36 39 rfl rfl rfl rfl ?_
  intro T6 X6 e6
  refine Gol.fB X6 hx hby hZ hown (w 57 _ rfl) e6 (B_A0.keep K nn_A0) 13 d19_39 d19_40 43 rfl rfl rfl rfl ?_
  intro T7 X7 e7
  refine Gol.iloadN X7 hx hby d19_43 44 rfl rfl ?_
  refine Gol.iaload X7 hx hby hZ e7 (V_A6.keep K nn_A6) d19_44 45 rfl (own_in2 ha) (v := (1 : Int32)) ((own_rI ha).trans (congrArg Value.int hc)) ?_
  refine Gol.aaload X7 hx hby hZ e7 (V_A10.keep K nn_A10) d19_45 46 rfl rfl ⟨by decide, by decide⟩ (v := (.ref (A 12))) rfl ?_
  refine Gol.astore X7 hx hby d19_46 48 rfl rfl (l' := #[vr (A 0), vi p1, vi 0, vi p1, vr (A 12), uu, uu, uu, uu, uu]) rfl ?_
  refine Gol.iconst X7 hx hby d19_48 49 rfl (z := (0 : Int32)) rfl ?_
  refine Gol.istore X7 hx hby d19_49 51 rfl (l' := #[vr (A 0), vi p1, vi 0, vi p1, vr (A 12), vi 0, uu, uu, uu, uu]) rfl ?_
  refine Gol.iload X7 hx hby d19_51 53 rfl rfl ?_
  refine Gol.fB X7 hx hby hZ hown (w 36 _ rfl) e7 (B_A0.keep K nn_A0) 6 d19_53 d19_54 57 rfl rfl rfl rfl ?_
  intro T8 X8 e8
  refine Gol.icmpNo X8 hx hby d19_57 60 rfl (tlt (by decide : (0 : Int32) < (2 : Int32))).2.1 ?_
  refine Gol.fB X8 hx hby hZ hown (w 79 _ rfl) e8 (B_A0.keep K nn_A0) 20 d19_60 d19_61 64 rfl rfl rfl rfl ?_
  intro T9 X9 e9
  refine Gol.iload X9 hx hby d19_64 66 rfl rfl ?_
  refine Gol.dup2 X9 hx hby d19_66 67 rfl rfl rfl ?_
  refine Gol.daload X9 hx hby hZ e9 V_A15 d19_67 68 rfl ⟨by decide, by decide⟩ (v := (0 : UInt64)) rfl ?_
  refine Gol.aload X9 hx hby d19_68 70 rfl rfl rfl ?_
  refine Gol.iload X9 hx hby d19_70 72 rfl rfl ?_
  refine Gol.daload X9 hx hby hZ e9 (V_A12.keep K nn_A12) d19_72 73 rfl ⟨by decide, by decide⟩ (v := (0 : UInt64)) rfl ?_
  refine Gol.dadd X9 hx hby d19_73 74 rfl (v := (0 : UInt64)) (own_nn (by decide)) (by decide +kernel) ?_
  refine Gol.dastore X9 hx hby hZ e9 V_A15 d19_74 75 rfl ⟨by decide, by decide⟩ 0 rfl (Nat.le_of_ble_eq_true rfl) ?_
  intro T10 h10 X10 e10 W10 A10
  have V_A15 : Arv Z h10 (A 15) kf3 .double (2 : Int32) [(.double 0), (.double 0)] (.double 0) := A10
  have K := K.wr W10 (Or.inl (List.mem_of_getElem? (i := 0) rfl))
  have N10 := Fr.snoc X10 N3 (G 15 rfl)
  refine Gol.iinc X10 hx hby d19_75 78 rfl rfl (l' := #[vr (A 0), vi p1, vi 0, vi p1, vr (A 12), vi 1, uu, uu, uu, uu]) rfl ?_
  refine Gol.goto X10 hx hby d19_78 51 (by decide) ?_
  refine Gol.iload X10 hx hby d19_51 53 rfl rfl ?_
  refine Gol.fB X10 hx hby hZ hown (w 36 _ rfl) e10 (B_A0.keep K nn_A0) 6 d19_53 d19_54 57 rfl rfl rfl rfl ?_
  intro T11 X11 e11
  refine Gol.icmpNo X11 hx hby d19_57 60 rfl (tlt (by decide : (1 : Int32) < (2 : Int32))).2.1 ?_
  refine Gol.fB X11 hx hby hZ hown (w 79 _ rfl) e11 (B_A0.keep K nn_A0) 20 d19_60 d19_61 64 rfl rfl rfl rfl ?_
  intro T12 X12 e12
  refine Gol.iload X12 hx hby d19_64 66 rfl rfl ?_
  refine Gol.dup2 X12 hx hby d19_66 67 rfl rfl rfl ?_
  refine Gol.daload X12 hx hby hZ e12 V_A15 d19_67 68 rfl ⟨by decide, by decide⟩ (v := (0 : UInt64)) rfl ?_
  refine Gol.aload X12 hx hby d19_68 70 rfl rfl rfl ?_
  refine Gol.iload X12 hx hby d19_70 72 rfl rfl ?_
  refine Gol.daload X12 hx hby hZ e12 (V_A12.keep K nn_A12) d19_72 73 rfl ⟨by decide, by decide⟩ (v := (4607182418800017408 : UInt64)) rfl ?_
  refine Gol.dadd X12 hx hby d19_73 74 rfl (v := (4607182418800017408 : UInt64)) (own_nn (by decide)) (by decide +kernel) ?_
  refine Gol.dastore X12 hx hby hZ e12 V_A15 d19_74 75 rfl ⟨by decide, by decide⟩ 1 rfl (Nat.le_of_ble_eq_true rfl) ?_
  intro T13 h13 X13 e13 W13 A13
  have V_A15 : Arv Z h13 (A 15) kf3 .double (2 : Int32) [(.double 0), (.double 4607182418800017408)] (.double 0) := A13
  have K := K.wr W13 (Or.inl (List.mem_of_getElem? (i := 0) rfl))
  have N13 := Fr.snoc X13 N10 (G 15 rfl)
  refine Gol.iinc X13 hx hby d19_75 78 rfl rfl (l' := #[vr (A 0), vi p1, vi 0, vi p1, vr (A 12), vi 2, uu, uu, uu, uu]) rfl ?_
  refine Gol.goto X13 hx hby d19_78 51 (by decide) ?_
  refine Gol.iload X13 hx hby d19_51 53 rfl rfl ?_
  refine Gol.fB X13 hx hby hZ hown (w 36 _ rfl) e13 (B_A0.keep K nn_A0) 6 d19_53 d19_54 57 rfl rfl rfl rfl ?_
  intro T14 X14 e14
  refine Gol.icmpYes X14 hx hby d19_57 81 (by decide) (flt (by decide : ¬ ((2 : Int32) < (2 : Int32)))).2.1 ?_
  refine Gol.iinc X14 hx hby d19_81 84 rfl rfl (l' := #[vr (A 0), vi p1, vi 0, vi (p1 + (1 : Int32)), vr (A 12), vi 2, uu, uu, uu, uu]) rfl ?_
  refine Gol.goto X14 hx hby d19_84 23 (by decide) ?_
  refine Gol.iloadN X14 hx hby d19_23 24 rfl rfl ?_
  refine Gol.fB X14 hx hby hZ hown (w 48 _ rfl) e14 (B_A0.keep K nn_A0) 12 d19_24 d19_25 28 rfl rfl rfl rfl ?_
  intro T15 X15 e15
  refine Gol.iloadN X15 hx hby d19_28 29 rfl rfl ?_
  refine Gol.iconst X15 hx hby d19_29 30 rfl (z := (1 : Int32)) rfl ?_
  refine Gol.iadd X15 hx hby d19_30 31 rfl rfl ?_
  refine Gol.iaload X15 hx hby hZ e15 (V_A5.keep K nn_A5) d19_31 32 rfl (own_in31 ha) (v := (p1 + (1 : Int32))) (own_ds1 ha) ?_
  refine Gol.icmpYes X15 hx hby d19_32 87 (by decide) (flt Int32.lt_irrefl).2.1 ?_
  refine Gol.goto X15 hx hby d19_87 187 (by decide) ?_
  refine Gol.dconst1 X15 hx hby d19_187 188 rfl (v := (4607182418800017408 : UInt64)) (by decide +kernel) ?_
  refine Gol.dstoreN X15 hx hby d19_188 189 rfl (l' := #[vr (A 0), vi p1, vi 0, vd 4607182418800017408, ss, vi 2, uu, uu, uu, uu]) rfl ?_
  refine Gol.dconst0 X15 hx hby d19_189 190 rfl (v := (0 : UInt64)) (by decide +kernel) ?_
  refine Gol.dstore X15 hx hby d19_190 192 rfl (l' := #[vr (A 0), vi p1, vi 0, vd 4607182418800017408, ss, vd 0, ss, uu, uu, uu]) rfl ?_
  refine Gol.iconst X15 hx hby d19_192 193 rfl (z := (0 : Int32)) rfl ?_
  refine Gol.istore X15 hx hby d19_193 195 rfl (l' := #[vr (A 0), vi p1, vi 0, vd 4607182418800017408, ss, vd 0, ss, vi 0, uu, uu]) rfl ?_
  refine Gol.iload X15 hx hby d19_195 197 rfl rfl ?_
  refine Gol.fB X15 hx hby hZ hown (w 36 _ rfl) e15 (B_A0.keep K nn_A0) 6 d19_197 d19_198 201 rfl rfl rfl rfl ?_
  intro T16 X16 e16
  refine Gol.icmpNo X16 hx hby d19_201 204 rfl (tlt (by decide : (0 : Int32) < (2 : Int32))).2.1 ?_
  refine Gol.dconst0 X16 hx hby d19_204 205 rfl (v := (0 : UInt64)) (by decide +kernel) ?_
  refine Gol.fB X16 hx hby hZ hown (w 71 _ rfl) e16 (B_A0.keep K nn_A0) 16 d19_205 d19_206 209 rfl rfl rfl rfl ?_
  intro T17 X17 e17
  refine Gol.iload X17 hx hby d19_209 211 rfl rfl ?_
  refine Gol.daload X17 hx hby hZ e17 (V_A9.keep K nn_A9) d19_211 212 rfl ⟨by decide, by decide⟩ (v := (4607182418800017408 : UInt64)) rfl ?_
  refine Gol.maxD X17 hx hby hZ hown (w 120 _ rfl) (w 121 _ rfl) (w 3 _ rfl) (w 122 _ rfl) e17 0 d19_212 215 rfl (by rw [hml]; rfl) (Nat.le_of_eq rfl) (by decide) (by decide) (by decide) (by decide) (own_nn (by decide)) (own_nn (by decide)) (v := (4607182418800017408 : UInt64)) (by decide +kernel) ?_
  intro T18 X18 e18
  refine Gol.ldc2Double X18 hx hby hZ hown d19_215 218 rfl (w 131 _ rfl) ?_
  refine Gol.dadd X18 hx hby d19_218 219 rfl (v := (4607182418804521008 : UInt64)) (own_nn (by decide)) (by decide +kernel) ?_
  refine Gol.dstore X18 hx hby d19_219 221 rfl (l' := #[vr (A 0), vi p1, vi 0, vd 4607182418800017408, ss, vd 0, ss, vi 0, vd 4607182418804521008, ss]) rfl ?_
  refine Gol.fB X18 hx hby hZ hown (w 79 _ rfl) e18 (B_A0.keep K nn_A0) 20 d19_221 d19_222 225 rfl rfl rfl rfl ?_
  intro T19 X19 e19
  refine Gol.iload X19 hx hby d19_225 227 rfl rfl ?_
  refine Gol.daload X19 hx hby hZ e19 V_A15 d19_227 228 rfl ⟨by decide, by decide⟩ (v := (0 : UInt64)) rfl ?_
  refine Gol.ldc2Double X19 hx hby hZ hown d19_228 231 rfl (w 151 _ rfl) ?_
  refine Gol.dcmp X19 hx hby d19_231 232 rfl (v := (-1 : Int32)) (by decide +kernel) ?_
  refine Gol.ifYes X19 hx hby d19_232 265 (by decide) ((if0 _ _).trans (flt (by decide : ¬ ((0 : Int32) < (-1 : Int32)))).2.2.2) ?_
  refine Gol.iinc X19 hx hby d19_265 268 rfl rfl (l' := #[vr (A 0), vi p1, vi 0, vd 4607182418800017408, ss, vd 0, ss, vi 1, vd 4607182418804521008, ss]) rfl ?_
  refine Gol.goto X19 hx hby d19_268 195 (by decide) ?_
  refine Gol.iload X19 hx hby d19_195 197 rfl rfl ?_
  refine Gol.fB X19 hx hby hZ hown (w 36 _ rfl) e19 (B_A0.keep K nn_A0) 6 d19_197 d19_198 201 rfl rfl rfl rfl ?_
  intro T20 X20 e20
  refine Gol.icmpNo X20 hx hby d19_201 204 rfl (tlt (by decide : (1 : Int32) < (2 : Int32))).2.1 ?_
  refine Gol.dconst0 X20 hx hby d19_204 205 rfl (v := (0 : UInt64)) (by decide +kernel) ?_
  refine Gol.fB X20 hx hby hZ hown (w 71 _ rfl) e20 (B_A0.keep K nn_A0) 16 d19_205 d19_206 209 rfl rfl rfl rfl ?_
  intro T21 X21 e21
  refine Gol.iload X21 hx hby d19_209 211 rfl rfl ?_
  refine Gol.daload X21 hx hby hZ e21 (V_A9.keep K nn_A9) d19_211 212 rfl ⟨by decide, by decide⟩ (v := (4607182418800017408 : UInt64)) rfl ?_
  refine Gol.maxD X21 hx hby hZ hown (w 120 _ rfl) (w 121 _ rfl) (w 3 _ rfl) (w 122 _ rfl) e21 0 d19_212 215 rfl (by rw [hml]; rfl) (Nat.le_of_eq rfl) (by decide) (by decide) (by decide) (by decide) (own_nn (by decide)) (own_nn (by decide)) (v := (4607182418800017408 : UInt64)) (by decide +kernel) ?_
  intro T22 X22 e22
  refine Gol.ldc2Double X22 hx hby hZ hown d19_215 218 rfl (w 131 _ rfl) ?_
  refine Gol.dadd X22 hx hby d19_218 219 rfl (v := (4607182418804521008 : UInt64)) (own_nn (by decide)) (by decide +kernel) ?_
  refine Gol.dstore X22 hx hby d19_219 221 rfl (l' := #[vr (A 0), vi p1, vi 0, vd 4607182418800017408, ss, vd 0, ss, vi 1, vd 4607182418804521008, ss]) rfl ?_
  refine Gol.fB X22 hx hby hZ hown (w 79 _ rfl) e22 (B_A0.keep K nn_A0) 20 d19_221 d19_222 225 rfl rfl rfl rfl ?_
  intro T23 X23 e23
  refine Gol.iload X23 hx hby d19_225 227 rfl rfl ?_
  refine Gol.daload X23 hx hby hZ e23 V_A15 d19_227 228 rfl ⟨by decide, by decide⟩ (v := (4607182418800017408 : UInt64)) rfl ?_
  refine Gol.ldc2Double X23 hx hby hZ hown d19_228 231 rfl (w 151 _ rfl) ?_
  refine Gol.dcmp X23 hx hby d19_231 232 rfl (v := (1 : Int32)) (by decide +kernel) ?_
  refine Gol.ifNo X23 hx hby d19_232 235 rfl ((if0 _ _).trans (tlt (by decide : (0 : Int32) < (1 : Int32))).2.2.2) ?_
  refine Gol.dload X23 hx hby d19_235 237 rfl rfl ?_
  refine Gol.dload X23 hx hby d19_237 239 rfl rfl ?_
  refine Gol.dmul X23 hx hby d19_239 240 rfl (v := (0 : UInt64)) (own_nn (by decide)) (by decide +kernel) ?_
  refine Gol.dloadN X23 hx hby d19_240 241 rfl rfl ?_
  refine Gol.fB X23 hx hby hZ hown (w 79 _ rfl) e23 (B_A0.keep K nn_A0) 20 d19_241 d19_242 245 rfl rfl rfl rfl ?_
  intro T24 X24 e24
  refine Gol.iload X24 hx hby d19_245 247 rfl rfl ?_
  refine Gol.daload X24 hx hby hZ e24 V_A15 d19_247 248 rfl ⟨by decide, by decide⟩ (v := (4607182418800017408 : UInt64)) rfl ?_
  refine Gol.dmul X24 hx hby d19_248 249 rfl (v := (4607182418800017408 : UInt64)) (own_nn (by decide)) (by decide +kernel) ?_
  refine Gol.dcmp X24 hx hby d19_249 250 rfl (v := (-1 : Int32)) (by decide +kernel) ?_
  refine Gol.ifNo X24 hx hby d19_250 253 rfl ((if0 _ _).trans (flt (by decide : ¬ ((0 : Int32) < (-1 : Int32)))).2.2.1) ?_
  refine Gol.dload X24 hx hby d19_253 255 rfl rfl ?_
  refine Gol.dstoreN X24 hx hby d19_255 256 rfl (l' := #[vr (A 0), vi p1, vi 0, vd 4607182418804521008, ss, vd 0, ss, vi 1, vd 4607182418804521008, ss]) rfl ?_
  refine Gol.fB X24 hx hby hZ hown (w 79 _ rfl) e24 (B_A0.keep K nn_A0) 20 d19_256 d19_257 260 rfl rfl rfl rfl ?_
  intro T25 X25 e25
  refine Gol.iload X25 hx hby d19_260 262 rfl rfl ?_
  refine Gol.daload X25 hx hby hZ e25 V_A15 d19_262 263 rfl ⟨by decide, by decide⟩ (v := (4607182418800017408 : UInt64)) rfl ?_
  refine Gol.dstore X25 hx hby d19_263 265 rfl (l' := #[vr (A 0), vi p1, vi 0, vd 4607182418804521008, ss, vd 4607182418800017408, ss, vi 1, vd 4607182418804521008, ss]) rfl ?_
  refine Gol.iinc X25 hx hby d19_265 268 rfl rfl (l' := #[vr (A 0), vi p1, vi 0, vd 4607182418804521008, ss, vd 4607182418800017408, ss, vi 2, vd 4607182418804521008, ss]) rfl ?_
  refine Gol.goto X25 hx hby d19_268 195 (by decide) ?_
  refine Gol.iload X25 hx hby d19_195 197 rfl rfl ?_
  refine Gol.fB X25 hx hby hZ hown (w 36 _ rfl) e25 (B_A0.keep K nn_A0) 6 d19_197 d19_198 201 rfl rfl rfl rfl ?_
  intro T26 X26 e26
  refine Gol.icmpYes X26 hx hby d19_201 271 (by decide) (flt (by decide : ¬ ((2 : Int32) < (2 : Int32)))).2.1 ?_
  refine Gol.iconst X26 hx hby d19_271 272 rfl (z := (-1 : Int32)) rfl ?_
  refine Gol.istore X26 hx hby d19_272 274 rfl (l' := #[vr (A 0), vi p1, vi 0, vd 4607182418804521008, ss, vd 4607182418800017408, ss, vi (-1), vd 4607182418804521008, ss]) rfl ?_
  refine Gol.iconst X26 hx hby d19_274 275 rfl (z := (0 : Int32)) rfl ?_
  refine Gol.istore X26 hx hby d19_275 277 rfl (l' := #[vr (A 0), vi p1, vi 0, vd 4607182418804521008, ss, vd 4607182418800017408, ss, vi (-1), vi 0, uu]) rfl ?_
  refine Gol.iload X26 hx hby d19_277 279 rfl rfl ?_
  refine Gol.fB X26 hx hby hZ hown (w 36 _ rfl) e26 (B_A0.keep K nn_A0) 6 d19_279 d19_280 283 rfl rfl rfl rfl ?_
  intro T27 X27 e27
  refine Gol.icmpNo X27 hx hby d19_283 286 rfl (tlt (by decide : (0 : Int32) < (2 : Int32))).2.1 ?_
  refine Gol.fB X27 hx hby hZ hown (w 79 _ rfl) e27 (B_A0.keep K nn_A0) 20 d19_286 d19_287 290 rfl rfl rfl rfl ?_
  intro T28 X28 e28
  refine Gol.iload X28 hx hby d19_290 292 rfl rfl ?_
  refine Gol.daload X28 hx hby hZ e28 V_A15 d19_292 293 rfl ⟨by decide, by decide⟩ (v := (0 : UInt64)) rfl ?_
  refine Gol.ldc2Double X28 hx hby hZ hown d19_293 296 rfl (w 151 _ rfl) ?_
  refine Gol.dcmp X28 hx hby d19_296 297 rfl (v := (-1 : Int32)) (by decide +kernel) ?_
  refine Gol.ifYes X28 hx hby d19_297 390 (by decide) ((if0 _ _).trans (flt (by decide : ¬ ((0 : Int32) < (-1 : Int32)))).2.2.2) ?_
  refine Gol.iinc X28 hx hby d19_390 393 rfl rfl (l' := #[vr (A 0), vi p1, vi 0, vd 4607182418804521008, ss, vd 4607182418800017408, ss, vi (-1), vi 1, uu]) rfl ?_
  refine Gol.goto X28 hx hby d19_393 277 (by decide) ?_
  refine Gol.iload X28 hx hby d19_277 279 rfl rfl ?_
  refine Gol.fB X28 hx hby hZ hown (w 36 _ rfl) e28 (B_A0.keep K nn_A0) 6 d19_279 d19_280 283 rfl rfl rfl rfl ?_
  intro T29 X29 e29
  refine Gol.icmpNo X29 hx hby d19_283 286 rfl (tlt (by decide : (1 : Int32) < (2 : Int32))).2.1 ?_
  refine Gol.fB X29 hx hby hZ hown (w 79 _ rfl) e29 (B_A0.keep K nn_A0) 20 d19_286 d19_287 290 rfl rfl rfl rfl ?_
  intro T30 X30 e30
  refine Gol.iload X30 hx hby d19_290 292 rfl rfl ?_
  refine Gol.daload X30 hx hby hZ e30 V_A15 d19_292 293 rfl ⟨by decide, by decide⟩ (v := (4607182418800017408 : UInt64)) rfl ?_
  refine Gol.ldc2Double X30 hx hby hZ hown d19_293 296 rfl (w 151 _ rfl) ?_
  refine Gol.dcmp X30 hx hby d19_296 297 rfl (v := (1 : Int32)) (by decide +kernel) ?_
  refine Gol.ifNo X30 hx hby d19_297 300 rfl ((if0 _ _).trans (tlt (by decide : (0 : Int32) < (1 : Int32))).2.2.2) ?_
  refine Gol.dconst0 X30 hx hby d19_300 301 rfl (v := (0 : UInt64)) (by decide +kernel) ?_
  refine Gol.fB X30 hx hby hZ hown (w 71 _ rfl) e30 (B_A0.keep K nn_A0) 16 d19_301 d19_302 305 rfl rfl rfl rfl ?_
  intro T31 X31 e31
  refine Gol.iload X31 hx hby d19_305 307 rfl rfl ?_
  refine Gol.daload X31 hx hby hZ e31 (V_A9.keep K nn_A9) d19_307 308 rfl ⟨by decide, by decide⟩ (v := (4607182418800017408 : UInt64)) rfl ?_
  refine Gol.maxD X31 hx hby hZ hown (w 120 _ rfl) (w 121 _ rfl) (w 3 _ rfl) (w 122 _ rfl) e31 0 d19_308 311 rfl (by rw [hml]; rfl) (Nat.le_of_eq rfl) (by decide) (by decide) (by decide) (by decide) (own_nn (by decide)) (own_nn (by decide)) (v := (4607182418800017408 : UInt64)) (by decide +kernel) ?_
  intro T32 X32 e32
  refine Gol.dload X32 hx hby d19_311 313 rfl rfl ?_
  refine Gol.dmul X32 hx hby d19_313 314 rfl (v := (4607182418800017408 : UInt64)) (own_nn (by decide)) (by decide +kernel) ?_
  refine Gol.dloadN X32 hx hby d19_314 315 rfl rfl ?_
  refine Gol.fB X32 hx hby hZ hown (w 79 _ rfl) e32 (B_A0.keep K nn_A0) 20 d19_315 d19_316 319 rfl rfl rfl rfl ?_
  intro T33 X33 e33
  refine Gol.iload X33 hx hby d19_319 321 rfl rfl ?_
  refine Gol.daload X33 hx hby hZ e33 V_A15 d19_321 322 rfl ⟨by decide, by decide⟩ (v := (4607182418800017408 : UInt64)) rfl ?_
  refine Gol.dmul X33 hx hby d19_322 323 rfl (v := (4607182418804521008 : UInt64)) (own_nn (by decide)) (by decide +kernel) ?_
  refine Gol.dcmp X33 hx hby d19_323 324 rfl (v := (-1 : Int32)) (by decide +kernel) ?_
  refine Gol.ifNo X33 hx hby d19_324 327 rfl ((if0 _ _).trans (flt (by decide : ¬ ((0 : Int32) < (-1 : Int32)))).2.2.1) ?_
  refine Gol.iload X33 hx hby d19_327 329 rfl rfl ?_
  refine Gol.ifYes X33 hx hby d19_329 374 (by decide) ((if0 _ _).trans (tlt (by decide : (-1 : Int32) < (0 : Int32))).1) ?_
  refine Gol.iconst X33 hx hby d19_374 375 rfl (z := (1 : Int32)) rfl ?_
  refine Gol.goto X33 hx hby d19_375 379 (by decide) ?_
  refine Gol.istore X33 hx hby d19_379 381 rfl (l' := #[vr (A 0), vi p1, vi 0, vd 4607182418804521008, ss, vd 4607182418800017408, ss, vi (-1), vi 1, vi 1]) rfl ?_
  refine Gol.iload X33 hx hby d19_381 383 rfl rfl ?_
  refine Gol.ifNo X33 hx hby d19_383 386 rfl ((if0 _ _).trans (feq (by decide : ¬ ((1 : Int32) = (0 : Int32)))).1) ?_
  refine Gol.iload X33 hx hby d19_386 388 rfl rfl ?_
  refine Gol.istore X33 hx hby d19_388 390 rfl (l' := #[vr (A 0), vi p1, vi 0, vd 4607182418804521008, ss, vd 4607182418800017408, ss, vi 1, vi 1, vi 1]) rfl ?_
  refine Gol.iinc X33 hx hby d19_390 393 rfl rfl (l' := #[vr (A 0), vi p1, vi 0, vd 4607182418804521008, ss, vd 4607182418800017408, ss, vi 1, vi 2, vi 1]) rfl ?_
  refine Gol.goto X33 hx hby d19_393 277 (by decide) ?_
  refine Gol.iload X33 hx hby d19_277 279 rfl rfl ?_
  refine Gol.fB X33 hx hby hZ hown (w 36 _ rfl) e33 (B_A0.keep K nn_A0) 6 d19_279 d19_280 283 rfl rfl rfl rfl ?_
  intro T34 X34 e34
  refine Gol.icmpYes X34 hx hby d19_283 396 (by decide) (flt (by decide : ¬ ((2 : Int32) < (2 : Int32)))).2.1 ?_
  refine Gol.iload X34 hx hby d19_396 398 rfl rfl ?_
  exact Gol.retI X34 hx hby Bd.returns Bd.notSynchronized d19_398 e34 ⟨rfl, N13, K, ⟨_, V_A15⟩⟩ (by decide) (by decide)
abbrev dc20 (i : Nat) (x : Instr) (n : Nat) : Prop := decode prog_8_method_19_code i = .ok (x, n)
theorem d20_0 : dc20 0 (.iconst 0) 1 := by decide +kernel
theorem d20_1 : dc20 1 (.istore 7) 2 := by decide +kernel
theorem d20_3 : dc20 3 (.iload 7) 2 := by decide +kernel
theorem d20_5 : dc20 5 (.aload_n 0) 1 := by decide +kernel
theorem d20_6 : dc20 6 (.getfield 39) 3 := by decide +kernel
theorem d20_9 : dc20 9 (.if_icmp .ge 28) 3 := by decide +kernel
theorem d20_12 : dc20 12 (.aload_n 0) 1 := by decide +kernel
theorem d20_13 : dc20 13 (.getfield 78) 3 := by decide +kernel
theorem d20_16 : dc20 16 (.iload 7) 2 := by decide +kernel
theorem d20_18 : dc20 18 .dup2 1 := by decide +kernel
theorem d20_19 : dc20 19 .daload 1 := by decide +kernel
theorem d20_20 : dc20 20 (.dload_n 3) 1 := by decide +kernel
theorem d20_21 : dc20 21 (.aload_n 0) 1 := by decide +kernel
theorem d20_22 : dc20 22 (.getfield 90) 3 := by decide +kernel
theorem d20_25 : dc20 25 (.iload 7) 2 := by decide +kernel
theorem d20_27 : dc20 27 .daload 1 := by decide +kernel
theorem d20_28 : dc20 28 .dmul 1 := by decide +kernel
theorem d20_29 : dc20 29 .dsub 1 := by decide +kernel
theorem d20_30 : dc20 30 .dastore 1 := by decide +kernel
theorem d20_31 : dc20 31 (.iinc 7 1) 3 := by decide +kernel
theorem d20_34 : dc20 34 (.goto (-31)) 3 := by decide +kernel
theorem d20_37 : dc20 37 (.aload_n 0) 1 := by decide +kernel
theorem d20_38 : dc20 38 (.getfield 78) 3 := by decide +kernel
theorem d20_41 : dc20 41 (.iload_n 1) 1 := by decide +kernel
theorem d20_42 : dc20 42 (.dload_n 3) 1 := by decide +kernel
theorem d20_43 : dc20 43 .dastore 1 := by decide +kernel
theorem d20_44 : dc20 44 (.aload_n 0) 1 := by decide +kernel
theorem d20_45 : dc20 45 (.getfield 90) 3 := by decide +kernel
theorem d20_48 : dc20 48 (.iload_n 1) 1 := by decide +kernel
theorem d20_49 : dc20 49 .daload 1 := by decide +kernel
theorem d20_50 : dc20 50 (.dstore 7) 2 := by decide +kernel
theorem d20_52 : dc20 52 (.iconst 0) 1 := by decide +kernel
theorem d20_53 : dc20 53 (.istore 9) 2 := by decide +kernel
theorem d20_55 : dc20 55 (.iload 9) 2 := by decide +kernel
theorem d20_57 : dc20 57 (.aload_n 0) 1 := by decide +kernel
theorem d20_58 : dc20 58 (.getfield 39) 3 := by decide +kernel
theorem d20_61 : dc20 61 (.if_icmp .ge 80) 3 := by decide +kernel
theorem d20_64 : dc20 64 (.aload_n 0) 1 := by decide +kernel
theorem d20_65 : dc20 65 (.getfield 81) 3 := by decide +kernel
theorem d20_68 : dc20 68 (.iload 9) 2 := by decide +kernel
theorem d20_70 : dc20 70 .aaload 1 := by decide +kernel
theorem d20_71 : dc20 71 (.astore 10) 2 := by decide +kernel
theorem d20_73 : dc20 73 (.aload 10) 2 := by decide +kernel
theorem d20_75 : dc20 75 (.iload_n 1) 1 := by decide +kernel
theorem d20_76 : dc20 76 .daload 1 := by decide +kernel
theorem d20_77 : dc20 77 (.dstore 11) 2 := by decide +kernel
theorem d20_79 : dc20 79 (.dload 11) 2 := by decide +kernel
theorem d20_81 : dc20 81 (.dconst 0) 1 := by decide +kernel
theorem d20_82 : dc20 82 (.dcmp .l) 1 := by decide +kernel
theorem d20_83 : dc20 83 (.ifCond .eq 52) 3 := by decide +kernel
theorem d20_86 : dc20 86 (.dload 11) 2 := by decide +kernel
theorem d20_88 : dc20 88 (.dload 7) 2 := by decide +kernel
theorem d20_90 : dc20 90 .ddiv 1 := by decide +kernel
theorem d20_91 : dc20 91 (.dstore 11) 2 := by decide +kernel
theorem d20_93 : dc20 93 (.iconst 0) 1 := by decide +kernel
theorem d20_94 : dc20 94 (.istore 13) 2 := by decide +kernel
theorem d20_96 : dc20 96 (.iload 13) 2 := by decide +kernel
theorem d20_98 : dc20 98 (.aload_n 0) 1 := by decide +kernel
theorem d20_99 : dc20 99 (.getfield 39) 3 := by decide +kernel
theorem d20_102 : dc20 102 (.if_icmp .ge 27) 3 := by decide +kernel
theorem d20_105 : dc20 105 (.aload 10) 2 := by decide +kernel
theorem d20_107 : dc20 107 (.iload 13) 2 := by decide +kernel
theorem d20_109 : dc20 109 .dup2 1 := by decide +kernel
theorem d20_110 : dc20 110 .daload 1 := by decide +kernel
theorem d20_111 : dc20 111 (.aload_n 0) 1 := by decide +kernel
theorem d20_112 : dc20 112 (.getfield 90) 3 := by decide +kernel
theorem d20_115 : dc20 115 (.iload 13) 2 := by decide +kernel
theorem d20_117 : dc20 117 .daload 1 := by decide +kernel
theorem d20_118 : dc20 118 (.dload 11) 2 := by decide +kernel
theorem d20_120 : dc20 120 .dmul 1 := by decide +kernel
theorem d20_121 : dc20 121 .dsub 1 := by decide +kernel
theorem d20_122 : dc20 122 .dastore 1 := by decide +kernel
theorem d20_123 : dc20 123 (.iinc 13 1) 3 := by decide +kernel
theorem d20_126 : dc20 126 (.goto (-30)) 3 := by decide +kernel
theorem d20_129 : dc20 129 (.aload 10) 2 := by decide +kernel
theorem d20_131 : dc20 131 (.iload_n 1) 1 := by decide +kernel
theorem d20_132 : dc20 132 (.dload 11) 2 := by decide +kernel
theorem d20_134 : dc20 134 .dastore 1 := by decide +kernel
theorem d20_135 : dc20 135 (.iinc 9 1) 3 := by decide +kernel
theorem d20_138 : dc20 138 (.goto (-83)) 3 := by decide +kernel
theorem d20_141 : dc20 141 (.aload_n 0) 1 := by decide +kernel
theorem d20_142 : dc20 142 (.getfield 72) 3 := by decide +kernel
theorem d20_145 : dc20 145 (.aload_n 0) 1 := by decide +kernel
theorem d20_146 : dc20 146 (.getfield 75) 3 := by decide +kernel
theorem d20_149 : dc20 149 (.iload_n 1) 1 := by decide +kernel
theorem d20_150 : dc20 150 .iaload 1 := by decide +kernel
theorem d20_151 : dc20 151 (.iconst (-1)) 1 := by decide +kernel
theorem d20_152 : dc20 152 .iastore 1 := by decide +kernel
theorem d20_153 : dc20 153 (.aload_n 0) 1 := by decide +kernel
theorem d20_154 : dc20 154 (.getfield 75) 3 := by decide +kernel
theorem d20_157 : dc20 157 (.iload_n 1) 1 := by decide +kernel
theorem d20_158 : dc20 158 (.iload_n 2) 1 := by decide +kernel
theorem d20_159 : dc20 159 .iastore 1 := by decide +kernel
theorem d20_160 : dc20 160 (.aload_n 0) 1 := by decide +kernel
theorem d20_161 : dc20 161 (.getfield 72) 3 := by decide +kernel
theorem d20_164 : dc20 164 (.iload_n 2) 1 := by decide +kernel
theorem d20_165 : dc20 165 (.iload_n 1) 1 := by decide +kernel
theorem d20_166 : dc20 166 .iastore 1 := by decide +kernel
theorem d20_167 : dc20 167 (.aload_n 0) 1 := by decide +kernel
theorem d20_168 : dc20 168 (.getfield 84) 3 := by decide +kernel
theorem d20_171 : dc20 171 (.iload_n 1) 1 := by decide +kernel
theorem d20_172 : dc20 172 (.aload_n 0) 1 := by decide +kernel
theorem d20_173 : dc20 173 (.iload_n 2) 1 := by decide +kernel
theorem d20_174 : dc20 174 (.invokevirtual 179) 3 := by decide +kernel
theorem d20_177 : dc20 177 .dastore 1 := by decide +kernel
theorem d20_178 : dc20 178 (.iconst 0) 1 := by decide +kernel
theorem d20_179 : dc20 179 (.istore 9) 2 := by decide +kernel
theorem d20_181 : dc20 181 (.iload 9) 2 := by decide +kernel
theorem d20_183 : dc20 183 (.aload_n 0) 1 := by decide +kernel
theorem d20_184 : dc20 184 (.getfield 39) 3 := by decide +kernel
theorem d20_187 : dc20 187 (.if_icmp .ge 31) 3 := by decide +kernel
theorem d20_190 : dc20 190 (.aload_n 0) 1 := by decide +kernel
theorem d20_191 : dc20 191 (.getfield 87) 3 := by decide +kernel
theorem d20_194 : dc20 194 (.iload 9) 2 := by decide +kernel
theorem d20_196 : dc20 196 .dup2 1 := by decide +kernel
theorem d20_197 : dc20 197 .daload 1 := by decide +kernel
theorem d20_198 : dc20 198 (.dload 5) 2 := by decide +kernel
theorem d20_200 : dc20 200 (.aload_n 0) 1 := by decide +kernel
theorem d20_201 : dc20 201 (.getfield 81) 3 := by decide +kernel
theorem d20_204 : dc20 204 (.iload 9) 2 := by decide +kernel
theorem d20_206 : dc20 206 .aaload 1 := by decide +kernel
theorem d20_207 : dc20 207 (.iload_n 1) 1 := by decide +kernel
theorem d20_208 : dc20 208 .daload 1 := by decide +kernel
theorem d20_209 : dc20 209 .dmul 1 := by decide +kernel
theorem d20_210 : dc20 210 .dadd 1 := by decide +kernel
theorem d20_211 : dc20 211 .dastore 1 := by decide +kernel
theorem d20_212 : dc20 212 (.iinc 9 1) 3 := by decide +kernel
theorem d20_215 : dc20 215 (.goto (-34)) 3 := by decide +kernel
theorem d20_218 : dc20 218 .return_ 1 := by decide +kernel
theorem pn_20 : plainName "com/example/quorumstone/quorumstone/check/Relaxation" = true := by first | (simp [plainName, overriddenIn]; done) | decide +kernel
theorem ef_Piv0 (m : MethodId) (p2 : Int32) (A : Nat → Addr) : entryFrame m #[(.ref (A 0)), (.int 0), (.int p2), (.double 4607182418800017408), (.double (FP.l2d rd))] 14 = mkF m 0 #[vr (A 0), vi 0, vi p2, vd 4607182418800017408, ss, vd (FP.l2d rd), ss, uu, uu, uu, uu, uu, uu, uu] [] := by first | (simp [entryFrame, mkF, argsToLocals, Value.category]; done) | rfl
abbrev QPiv0 (Z : State) (p2 : Int32) (A : Nat → Addr) (pp cc nx wk ps : Int32) (un : Int64) (op nd0 nd1 tk0 tk1 x0 x1 y0 y1 : Int32) (yb za zb : Value) (Mo rd : Int64) (h0 : Heap) (n0 : Nat) (v : Option Value) (h : Heap) (L : List Loc) : Prop := v = none ∧ Fr n0 L ∧ Keep h0 h [(A 7), (A 8), (A 9), (A 11), (A 13), (A 14)] ∧ Vv Z h (A 7) .int (6 : Int32) [(.int (sel p2 (0 : Int32) x0)), (.int (sel p2 x1 (0 : Int32))), (.int (-1)), (.int (-1)), (.int (-1)), (.int y1)] (.int 0) ∧ Vv Z h (A 8) .int (2 : Int32) [(.int p2), yb] (.int 0) ∧ Vv Z h (A 9) .double (2 : Int32) [(.double 4607182418800017408), (.double 4607182418800017408)] (.double 0) ∧ Vv Z h (A 11) .double (2 : Int32) [(.double 4607182418800017408), (.double 0)] (.double 0) ∧ Vv Z h (A 13) .double (2 : Int32) [(.double (FP.l2d (prf p2 nd0 nd1 tk0 tk1))), zb] (.double 0) ∧ Vv Z h (A 14) .double (2 : Int32) [(.double (FP.l2d rd)), (.double (FP.l2d Mo))] (.double 0)
set_option maxRecDepth 65536 in
set_option maxHeartbeats 40000000 in
theorem rmPiv0 (l : Launch) (Z : State) (a0 : Array Value) (hw : TW a0 Z) (ws : List Jvm.Cond) (p2 : Int32) (A : Nat → Addr) (pp cc nx wk ps : Int32) (un : Int64) (op nd0 nd1 tk0 tk1 x0 x1 y0 y1 : Int32) (yb za zb : Value) (Mo rd : Int64) (h0 : Heap) (n0 : Nat) (Zs : n0 ≤ h0.size) (D : DisA A) (G : FreA A n0) (B_A0 : FL Z h0 (A 0) (rxv A pp cc nx wk ps un op)) (E_A0 : Exa Z h0 (A 0) "com/example/quorumstone/quorumstone/check/Relaxation") (P2 : Vv Z h0 (A 2) .int (2 : Int32) [(.int nd0), (.int nd1)] (.int 0)) (P3 : Vv Z h0 (A 3) .int (2 : Int32) [(.int tk0), (.int tk1)] (.int 0)) (P7 : Vv Z h0 (A 7) .int (6 : Int32) [(.int x0), (.int x1), (.int (-1)), (.int (-1)), (.int y0), (.int y1)] (.int 0)) (P8 : Vv Z h0 (A 8) .int (2 : Int32) [(.int 4), yb] (.int 0)) (P9 : Vv Z h0 (A 9) .double (2 : Int32) [(.double 4607182418800017408), (.double 4607182418800017408)] (.double 0)) (P10 : Vv Z h0 (A 10) (.array .double) (2 : Int32) [(.ref (A 11)), (.ref (A 12))] .null) (P11 : Vv Z h0 (A 11) .double (2 : Int32) [(.double 4607182418800017408), (.double 0)] (.double 0)) (P12 : Vv Z h0 (A 12) .double (2 : Int32) [(.double 0), (.double 4607182418800017408)] (.double 0)) (P13 : Vv Z h0 (A 13) .double (2 : Int32) [za, zb] (.double 0)) (P14 : Vv Z h0 (A 14) .double (2 : Int32) [(.double 0), (.double (FP.l2d Mo))] (.double 0)) (P15 : Vv Z h0 (A 15) .double (2 : Int32) [(.double 4607182418800017408), (.double 0)] (.double 0)) (ha : B01 p2) (hrb : B53 rd) (hrp : 0 < rd.toInt) (hMb : B53 Mo) :
    Mt l (⟨"com/example/quorumstone/quorumstone/check/Relaxation", "pivot", "(IIDD)V"⟩ : MethodName) prog_8_method_19_code 14 none ws (rmm 2 0 0 30) #[(.ref (A 0)), (.int 0), (.int p2), (.double 4607182418800017408), (.double (FP.l2d rd))] Z h0 (QPiv0 Z p2 A pp cc nx wk ps un op nd0 nd1 tk0 tk1 x0 x1 y0 y1 yb za zb Mo rd h0 n0) 0 0 := by
  refine own_body n0 (plainFor_of_name pn_20) hw (fun m => ef_Piv0 m p2 A) ?_
  intro p ev s m below meth c s₁ Bd hZ hx hby hml hown X0 eh0 N0 w
  obtain ⟨k_A2, V_A2⟩ := P2
  obtain ⟨k_A3, V_A3⟩ := P3
  obtain ⟨k_A7, V_A7⟩ := P7
  obtain ⟨k_A8, V_A8⟩ := P8
  obtain ⟨k_A9, V_A9⟩ := P9
  obtain ⟨k_A10, V_A10⟩ := P10
  obtain ⟨k_A11, V_A11⟩ := P11
  obtain ⟨k_A12, V_A12⟩ := P12
  obtain ⟨k_A13, V_A13⟩ := P13
  obtain ⟨k_A14, V_A14⟩ := P14
  obtain ⟨k_A15, V_A15⟩ := P15
  have nn_A2 : (A 2) ∉ [(A 7), (A 8), (A 9), (A 11), (A 13), (A 14)] := (nnA D 2 [7, 8, 9, 11, 13, 14] rfl)
  have nn_A3 : (A 3) ∉ [(A 7), (A 8), (A 9), (A 11), (A 13), (A 14)] := (nnA D 3 [7, 8, 9, 11, 13, 14] rfl)
  have nn_A10 : (A 10) ∉ [(A 7), (A 8), (A 9), (A 11), (A 13), (A 14)] := (nnA D 10 [7, 8, 9, 11, 13, 14] rfl)
  have nn_A12 : (A 12) ∉ [(A 7), (A 8), (A 9), (A 11), (A 13), (A 14)] := (nnA D 12 [7, 8, 9, 11, 13, 14] rfl)
  have nn_A15 : (A 15) ∉ [(A 7), (A 8), (A 9), (A 11), (A 13), (A 14)] := (nnA D 15 [7, 8, 9, 11, 13, 14] rfl)
  have nn_A0 : (A 0) ∉ [(A 7), (A 8), (A 9), (A 11), (A 13), (A 14)] := (nnA D 0 [7, 8, 9, 11, 13, 14] rfl)
  have K := Keep.refl h0 [(A 7), (A 8), (A 9), (A 11), (A 13), (A 14)]
  show GolF _ _ _ _ _ _ _ s₁ m 0 #[vr (A 0), vi 0, vi p2, vd 4607182418800017408, ss, vd (FP.l2d rd), ss, uu, uu, uu, uu, uu, uu, uu] []
  refine Gol.iconst X0 hx hby d20_0 1 rfl (z := (0 : Int32)) rfl ?_
  refine Gol.istore X0 hx hby d20_1 3 rfl (l' := #[vr (A 0), vi 0, vi p2, vd 4607182418800017408, ss, vd (FP.l2d rd), ss, vi 0, uu, uu, uu, uu, uu, uu]) rfl ?_
  refine Gol.iload X0 hx hby d20_3 5 rfl rfl ?_
  refine Gol.fB X0 hx hby hZ hown (w 36 _ rfl) eh0 B_A0 6 d20_5 d20_6 9 rfl rfl rfl rfl ?_
  intro T1 X1 e1
  refine Gol.icmpNo X1 hx hby d20_9 12 rfl (tlt (by decide : (0 : Int32) < (2 : Int32))).2.1 ?_
  refine Gol.fB X1 hx hby hZ hown (w 71 _ rfl) e1 B_A0 16 d20_12 d20_13 16 rfl rfl rfl rfl ?_
  intro T2 X2 e2
  refine Gol.iload X2 hx hby d20_16 18 rfl rfl ?_
  refine Gol.dup2 X2 hx hby d20_18 19 rfl rfl rfl ?_
  refine Gol.daload X2 hx hby hZ e2 V_A9 d20_19 20 rfl ⟨by decide, by decide⟩ (v := (4607182418800017408 : UInt64)) rfl ?_
  refine Gol.dloadN X2 hx hby d20_20 21 rfl rfl ?_
  refine Gol.fB X2 hx hby hZ hown (w 79 _ rfl) e2 B_A0 20 d20_21 d20_22 25 rfl rfl rfl rfl ?_
  intro T3 X3 e3
  refine Gol.iload X3 hx hby d20_25 27 rfl rfl ?_
  refine Gol.daload X3 hx hby hZ e3 V_A15 d20_27 28 rfl ⟨by decide, by decide⟩ (v := (4607182418800017408 : UInt64)) rfl ?_
  refine Gol.dmul X3 hx hby d20_28 29 rfl (v := (4607182418800017408 : UInt64)) (own_nn (by decide)) (by decide +kernel) ?_
  refine Gol.dsub X3 hx hby d20_29 30 rfl (v := (0 : UInt64)) (own_nn (by decide)) (by decide +kernel) ?_
  refine Gol.dastore X3 hx hby hZ e3 V_A9 d20_30 31 rfl ⟨by decide, by decide⟩ 0 rfl (Nat.le_of_ble_eq_true rfl) ?_
  intro T4 h4 X4 e4 W4 A4
  have V_A9 : Arv Z h4 (A 9) k_A9 .double (2 : Int32) [(.double 0), (.double 4607182418800017408)] (.double 0) := A4
  have V_A7 := V_A7.other W4 (D 7 9 rfl)
  have V_A8 := V_A8.other W4 (D 8 9 rfl)
  have V_A11 := V_A11.other W4 (D 11 9 rfl)
  have V_A13 := V_A13.other W4 (D 13 9 rfl)
  have V_A14 := V_A14.other W4 (D 14 9 rfl)
  have K := K.wr W4 (Or.inl (List.mem_of_getElem? (i := 2) rfl))
  have Zs := Nat.le_trans Zs (Keep.of_wr W4).1
  have N4 := Fr.snoc X4 N0 (G 9 rfl)
  refine Gol.iinc X4 hx hby d20_31 34 rfl rfl (l' := #[vr (A 0), vi 0, vi p2, vd 4607182418800017408, ss, vd (FP.l2d rd), ss, vi 1, uu, uu, uu, uu, uu, uu]) rfl ?_
  refine Gol.goto X4 hx hby d20_34 3 (by decide) ?_
  refine Gol.iload X4 hx hby d20_3 5 rfl rfl ?_
  refine Gol.fB X4 hx hby hZ hown (w 36 _ rfl) e4 (B_A0.keep K nn_A0) 6 d20_5 d20_6 9 rfl rfl rfl rfl ?_
  intro T5 X5 e5
  refine Gol.icmpNo X5 hx hby d20_9 12 rfl (tlt (by decide : (1 : Int32) < (2 : Int32))).2.1 ?_
  refine Gol.fB X5 hx hby hZ hown (w 71 _ rfl) e5 (B_A0.keep K nn_A0) 16 d20_12 d20_13 16 rfl rfl rfl rfl ?_
  intro T6 X6 e6
  refine Gol.iload X6 hx hby d20_16 18 rfl rfl ?_
  refine Gol.dup2 X6 hx hby d20_18 19 rfl rfl rfl ?_
  refine Gol.daload X6 hx hby hZ e6 V_A9 d20_19 20 rfl ⟨by decide, by decide⟩ (v := (4607182418800017408 : UInt64)) rfl ?_
  refine Gol.dloadN X6 hx hby d20_20 21 rfl rfl ?_
  refine Gol.fB X6 hx hby hZ hown (w 79 _ rfl) e6 (B_A0.keep K nn_A0) 20 d20_21 d20_22 25 rfl rfl rfl rfl ?_
  intro T7 X7 e7
  refine Gol.iload X7 hx hby d20_25 27 rfl rfl ?_
  refine Gol.daload X7 hx hby hZ e7 (V_A15.keep K nn_A15) d20_27 28 rfl ⟨by decide, by decide⟩ (v := (0 : UInt64)) rfl ?_
  refine Gol.dmul X7 hx hby d20_28 29 rfl (v := (0 : UInt64)) (own_nn (by decide)) (by decide +kernel) ?_
  refine Gol.dsub X7 hx hby d20_29 30 rfl (v := (4607182418800017408 : UInt64)) (own_nn (by decide)) (by decide +kernel) ?_
  refine Gol.dastore X7 hx hby hZ e7 V_A9 d20_30 31 rfl ⟨by decide, by decide⟩ 1 rfl (Nat.le_of_ble_eq_true rfl) ?_
  intro T8 h8 X8 e8 W8 A8
  have V_A9 : Arv Z h8 (A 9) k_A9 .double (2 : Int32) [(.double 0), (.double 4607182418800017408)] (.double 0) := A8
  have V_A7 := V_A7.other W8 (D 7 9 rfl)
  have V_A8 := V_A8.other W8 (D 8 9 rfl)
  have V_A11 := V_A11.other W8 (D 11 9 rfl)
  have V_A13 := V_A13.other W8 (D 13 9 rfl)
  have V_A14 := V_A14.other W8 (D 14 9 rfl)
  have K := K.wr W8 (Or.inl (List.mem_of_getElem? (i := 2) rfl))
  have Zs := Nat.le_trans Zs (Keep.of_wr W8).1
  have N8 := Fr.snoc X8 N4 (G 9 rfl)
  refine Gol.iinc X8 hx hby d20_31 34 rfl rfl (l' := #[vr (A 0), vi 0, vi p2, vd 4607182418800017408, ss, vd (FP.l2d rd), ss, vi 2, uu, uu, uu, uu, uu, uu]) rfl ?_
  refine Gol.goto X8 hx hby d20_34 3 (by decide) ?_
  refine Gol.iload X8 hx hby d20_3 5 rfl rfl ?_
  refine Gol.fB X8 hx hby hZ hown (w 36 _ rfl) e8 (B_A0.keep K nn_A0) 6 d20_5 d20_6 9 rfl rfl rfl rfl ?_
  intro T9 X9 e9
  refine Gol.icmpYes X9 hx hby d20_9 37 (by decide) (flt (by decide : ¬ ((2 : Int32) < (2 : Int32)))).2.1 ?_
  refine Gol.fB X9 hx hby hZ hown (w 71 _ rfl) e9 (B_A0.keep K nn_A0) 16 d20_37 d20_38 41 rfl rfl rfl rfl ?_
  intro T10 X10 e10
  refine Gol.iloadN X10 hx hby d20_41 42 rfl rfl ?_
  refine Gol.dloadN X10 hx hby d20_42 43 rfl rfl ?_
  refine Gol.dastore X10 hx hby hZ e10 V_A9 d20_43 44 rfl ⟨by decide, by decide⟩ 0 rfl (Nat.le_of_ble_eq_true rfl) ?_
  intro T11 h11 X11 e11 W11 A11
  have V_A9 : Arv Z h11 (A 9) k_A9 .double (2 : Int32) [(.double 4607182418800017408), (.double 4607182418800017408)] (.double 0) := A11
  have V_A7 := V_A7.other W11 (D 7 9 rfl)
  have V_A8 := V_A8.other W11 (D 8 9 rfl)
  have V_A11 := V_A11.other W11 (D 11 9 rfl)
  have V_A13 := V_A13.other W11 (D 13 9 rfl)
  have V_A14 := V_A14.other W11 (D 14 9 rfl)
  have K := K.wr W11 (Or.inl (List.mem_of_getElem? (i := 2) rfl))
  have Zs := Nat.le_trans Zs (Keep.of_wr W11).1
  have N11 := Fr.snoc X11 N8 (G 9 rfl)
  refine Gol.fB X11 hx hby hZ hown (w 79 _ rfl) e11 (B_A0.keep K nn_A0) 20 d20_44 d20_45 48 rfl rfl rfl rfl ?_
  intro T12 X12 e12
  refine Gol.iloadN X12 hx hby d20_48 49 rfl rfl ?_
  refine Gol.daload X12 hx hby hZ e12 (V_A15.keep K nn_A15) d20_49 50 rfl ⟨by decide, by decide⟩ (v := (4607182418800017408 : UInt64)) rfl ?_
  refine Gol.dstore X12 hx hby d20_50 52 rfl (l' := #[vr (A 0), vi 0, vi p2, vd 4607182418800017408, ss, vd (FP.l2d rd), ss, vd 4607182418800017408, ss, uu, uu, uu, uu, uu]) rfl ?_
  refine Gol.iconst X12 hx hby d20_52 53 rfl (z := (0 : Int32)) rfl ?_
  refine Gol.istore X12 hx hby d20_53 55 rfl (l' := #[vr (A 0), vi 0, vi p2, vd 4607182418800017408, ss, vd (FP.l2d rd), ss, vd 4607182418800017408, ss, vi 0, uu, uu, uu, uu]) rfl ?_
  refine Gol.iload X12 hx hby d20_55 57 rfl rfl ?_
  refine Gol.fB X12 hx hby hZ hown (w 36 _ rfl) e12 (B_A0.keep K nn_A0) 6 d20_57 d20_58 61 rfl rfl rfl rfl ?_
  intro T13 X13 e13
  refine Gol.icmpNo X13 hx hby d20_61 64 rfl (tlt (by decide : (0 : Int32) < (2 : Int32))).2.1 ?_
  refine Gol.fB X13 hx hby hZ hown (w 73 _ rfl) e13 (B_A0.keep K nn_A0) 17 d20_64 d20_65 68 rfl rfl rfl rfl ?_
  intro T14 X14 e14
  refine Gol.iload X14 hx hby d20_68 70 rfl rfl ?_
  refine Gol.aaload X14 hx hby hZ e14 (V_A10.keep K nn_A10) d20_70 71 rfl rfl ⟨by decide, by decide⟩ (v := (.ref (A 11))) rfl ?_
  refine Gol.astore X14 hx hby d20_71 73 rfl rfl (l' := #[vr (A 0), vi 0, vi p2, vd 4607182418800017408, ss, vd (FP.l2d rd), ss, vd 4607182418800017408, ss, vi 0, vr (A 11), uu, uu, uu]) rfl ?_
  refine Gol.aload X14 hx hby d20_73 75 rfl rfl rfl ?_
  refine Gol.iloadN X14 hx hby d20_75 76 rfl rfl ?_
  refine Gol.daload X14 hx hby hZ e14 V_A11 d20_76 77 rfl ⟨by decide, by decide⟩ (v := (4607182418800017408 : UInt64)) rfl ?_
  refine Gol.dstore X14 hx hby d20_77 79 rfl (l' := #[vr (A 0), vi 0, vi p2, vd 4607182418800017408, ss, vd (FP.l2d rd), ss, vd 4607182418800017408, ss, vi 0, vr (A 11), vd 4607182418800017408, ss, uu]) rfl ?_
  refine Gol.dload X14 hx hby d20_79 81 rfl rfl ?_
  refine Gol.dconst0 X14 hx hby d20_81 82 rfl (v := (0 : UInt64)) (by decide +kernel) ?_
  refine Gol.dcmp X14 hx hby d20_82 83 rfl (v := (1 : Int32)) (by decide +kernel) ?_
  refine Gol.ifNo X14 hx hby d20_83 86 rfl ((if0 _ _).trans (feq (by decide : ¬ ((1 : Int32) = (0 : Int32)))).1) ?_
  refine Gol.dload X14 hx hby d20_86 88 rfl rfl ?_
  refine Gol.dload X14 hx hby d20_88 90 rfl rfl ?_
  refine Gol.ddiv X14 hx hby d20_90 91 rfl (v := (4607182418800017408 : UInt64)) (own_nn (by decide)) (by decide +kernel) ?_
  refine Gol.dstore X14 hx hby d20_91 93 rfl (l' := #[vr (A 0), vi 0, vi p2, vd 4607182418800017408, ss, vd (FP.l2d rd), ss, vd 4607182418800017408, ss, vi 0, vr (A 11), vd 4607182418800017408, ss, uu]) rfl ?_
  refine Gol.iconst X14 hx hby d20_93 94 rfl (z := (0 : Int32)) rfl ?_
  refine Gol.istore X14 hx hby d20_94 96 rfl (l' := #[vr (A 0), vi 0, vi p2, vd 4607182418800017408, ss, vd (FP.l2d rd), ss, vd 4607182418800017408, ss, vi 0, vr (A 11), vd 4607182418800017408, ss, vi 0]) rfl ?_
  refine Gol.iload X14 hx hby d20_96 98 rfl rfl ?_
  refine Gol.fB X14 hx hby hZ hown (w 36 _ rfl) e14 (B_A0.keep K nn_A0) 6 d20_98 d20_99 102 rfl rfl rfl rfl ?_
  intro T15 X15 e15
  refine Gol.icmpNo X15 hx hby d20_102 105 rfl (tlt (by decide : (0 : Int32) < (2 : Int32))).2.1 ?_
  refine Gol.aload X15 hx hby d20_105 107 rfl rfl rfl ?_
  refine Gol.iload X15 hx hby d20_107 109 rfl rfl ?_
  refine Gol.dup2 X15 hx hby d20_109 110 rfl rfl rfl ?_
  refine Gol.daload X15 hx hby hZ e15 V_A11 d20_110 111 rfl ⟨by decide, by decide⟩ (v := (4607182418800017408 : UInt64)) rfl ?_
  refine Gol.fB X15 hx hby hZ hown (w 79 _ rfl) e15 (B_A0.keep K nn_A0) 20 d20_111 d20_112 115 rfl rfl rfl rfl ?_
  intro T16 X16 e16
  refine Gol.iload X16 hx hby d20_115 117 rfl rfl ?_
  refine Gol.daload X16 hx hby hZ e16 (V_A15.keep K nn_A15) d20_117 118 rfl ⟨by decide, by decide⟩ (v := (4607182418800017408 : UInt64)) rfl ?_
  refine Gol.dload X16 hx hby d20_118 120 rfl rfl ?_
  refine Gol.dmul X16 hx hby d20_120 121 rfl (v := (4607182418800017408 : UInt64)) (own_nn (by decide)) (by decide +kernel) ?_
  refine Gol.dsub X16 hx hby d20_121 122 rfl (v := (0 : UInt64)) (own_nn (by decide)) (by decide +kernel) ?_
  refine Gol.dastore X16 hx hby hZ e16 V_A11 d20_122 123 rfl ⟨by decide, by decide⟩ 0 rfl (Nat.le_of_ble_eq_true rfl) ?_
  intro T17 h17 X17 e17 W17 A17
  have V_A11 : Arv Z h17 (A 11) k_A11 .double (2 : Int32) [(.double 0), (.double 0)] (.double 0) := A17
  have V_A7 := V_A7.other W17 (D 7 11 rfl)
  have V_A8 := V_A8.other W17 (D 8 11 rfl)
  have V_A13 := V_A13.other W17 (D 13 11 rfl)
  have V_A14 := V_A14.other W17 (D 14 11 rfl)
  have V_A9 := V_A9.other W17 (D 9 11 rfl)
  have K := K.wr W17 (Or.inl (List.mem_of_getElem? (i := 3) rfl))
  have Zs := Nat.le_trans Zs (Keep.of_wr W17).1
  have N17 := Fr.snoc X17 N11 (G 11 rfl)
  refine Gol.iinc X17 hx hby d20_123 126 rfl rfl (l' := #[vr (A 0), vi 0, vi p2, vd 4607182418800017408, ss, vd (FP.l2d rd), ss, vd 4607182418800017408, ss, vi 0, vr (A 11), vd 4607182418800017408, ss, vi 1]) rfl ?_
  refine Gol.goto X17 hx hby d20_126 96 (by decide) ?_
  refine Gol.iload X17 hx hby d20_96 98 rfl rfl ?_
  refine Gol.fB X17 hx hby hZ hown (w 36 _ rfl) e17 (B_A0.keep K nn_A0) 6 d20_98 d20_99 102 rfl rfl rfl rfl ?_
  intro T18 X18 e18
  refine Gol.icmpNo X18 hx hby d20_102 105 rfl (tlt (by decide : (1 : Int32) < (2 : Int32))).2.1 ?_
  refine Gol.aload X18 hx hby d20_105 107 rfl rfl rfl ?_
  refine Gol.iload X18 hx hby d20_107 109 rfl rfl ?_
  refine Gol.dup2 X18 hx hby d20_109 110 rfl rfl rfl ?_
  refine Gol.daload X18 hx hby hZ e18 V_A11 d20_110 111 rfl ⟨by decide, by decide⟩ (v := (0 : UInt64)) rfl ?_
  refine Gol.fB X18 hx hby hZ hown (w 79 _ rfl) e18 (B_A0.keep K nn_A0) 20 d20_111 d20_112 115 rfl rfl rfl rfl ?_
  intro T19 X19 e19
  refine Gol.iload X19 hx hby d20_115 117 rfl rfl ?_
  refine Gol.daload X19 hx hby hZ e19 (V_A15.keep K nn_A15) d20_117 118 rfl ⟨by decide, by decide⟩ (v := (0 : UInt64)) rfl ?_
  refine Gol.dload X19 hx hby d20_118 120 rfl rfl ?_
  refine Gol.dmul X19 hx hby d20_120 121 rfl (v := (0 : UInt64)) (own_nn (by decide)) (by decide +kernel) ?_
  refine Gol.dsub X19 hx hby d20_121 122 rfl (v := (0 : UInt64)) (own_nn (by decide)) (by decide +kernel) ?_
  refine Gol.dastore X19 hx hby hZ e19 V_A11 d20_122 123 rfl ⟨by decide, by decide⟩ 1 rfl (Nat.le_of_ble_eq_true rfl) ?_
  intro T20 h20 X20 e20 W20 A20
  have V_A11 : Arv Z h20 (A 11) k_A11 .double (2 : Int32) [(.double 0), (.double 0)] (.double 0) := A20
  have V_A7 := V_A7.other W20 (D 7 11 rfl)
  have V_A8 := V_A8.other W20 (D 8 11 rfl)
  have V_A13 := V_A13.other W20 (D 13 11 rfl)
  have V_A14 := V_A14.other W20 (D 14 11 rfl)
  have V_A9 := V_A9.other W20 (D 9 11 rfl)
  have K := K.wr W20 (Or.inl (List.mem_of_getElem? (i := 3) rfl))
  have Zs := Nat.le_trans Zs (Keep.of_wr W20).1
  have N20 := Fr.snoc X20 N17 (G 11 rfl)
  refine Gol.iinc X20 hx hby d20_123 126 rfl rfl (l' := #[vr (A 0), vi 0, vi p2, vd 4607182418800017408, ss, vd (FP.l2d rd), ss, vd 4607182418800017408, ss, vi 0, vr (A 11), vd 4607182418800017408, ss, vi 2]) rfl ?_
  refine Gol.goto X20 hx hby d20_126 96 (by decide) ?_
  refine Gol.iload X20 hx hby d20_96 98 rfl rfl ?_
  refine Gol.fB X20 hx hby hZ hown (w 36 _ rfl) e20 (B_A0.keep K nn_A0) 6 d20_98 d20_99 102 rfl rfl rfl rfl ?_
  intro T21 X21 e21
  refine Gol.icmpYes X21 hx hby d20_102 129 (by decide) (flt (by decide : ¬ ((2 : Int32) < (2 : Int32)))).2.1 ?_
  refine Gol.aload X21 hx hby d20_129 131 rfl rfl rfl ?_
  refine Gol.iloadN X21 hx hby d20_131 132 rfl rfl ?_
  refine Gol.dload X21 hx hby d20_132 134 rfl rfl ?_
  refine Gol.dastore X21 hx hby hZ e21 V_A11 d20_134 135 rfl ⟨by decide, by decide⟩ 0 rfl (Nat.le_of_ble_eq_true rfl) ?_
  intro T22 h22 X22 e22 W22 A22
  have V_A11 : Arv Z h22 (A 11) k_A11 .double (2 : Int32) [(.double 4607182418800017408), (.double 0)] (.double 0) := A22
  have V_A7 := V_A7.other W22 (D 7 11 rfl)
  have V_A8 := V_A8.other W22 (D 8 11 rfl)
  have V_A13 := V_A13.other W22 (D 13 11 rfl)
  have V_A14 := V_A14.other W22 (D 14 11 rfl)
  have V_A9 := V_A9.other W22 (D 9 11 rfl)
  have K := K.wr W22 (Or.inl (List.mem_of_getElem? (i := 3) rfl))
  have Zs := Nat.le_trans Zs (Keep.of_wr W22).1
  have N22 := Fr.snoc X22 N20 (G 11 rfl)
  refine Gol.iinc X22 hx hby d20_135 138 rfl rfl (l' := #[vr (A 0), vi 0, vi p2, vd 4607182418800017408, ss, vd (FP.l2d rd), ss, vd 4607182418800017408, ss, vi 1, vr (A 11), vd 4607182418800017408, ss, vi 2]) rfl ?_
  refine Gol.goto X22 hx hby d20_138 55 (by decide) ?_
  refine Gol.iload X22 hx hby d20_55 57 rfl rfl ?_
  refine Gol.fB X22 hx hby hZ hown (w 36 _ rfl) e22 (B_A0.keep K nn_A0) 6 d20_57 d20_58 61 rfl rfl rfl rfl ?_
  intro T23 X23 e23
  refine Gol.icmpNo X23 hx hby d20_61 64 rfl (tlt (by decide : (1 : Int32) < (2 : Int32))).2.1 ?_
  refine Gol.fB X23 hx hby hZ hown (w 73 _ rfl) e23 (B_A0.keep K nn_A0) 17 d20_64 d20_65 68 rfl rfl rfl rfl ?_
  intro T24 X24 e24
  refine Gol.iload X24 hx hby d20_68 70 rfl rfl ?_
  refine Gol.aaload X24 hx hby hZ e24 (V_A10.keep K nn_A10) d20_70 71 rfl rfl ⟨by decide, by decide⟩ (v := (.ref (A 12))) rfl ?_
  refine Gol.astore X24 hx hby d20_71 73 rfl rfl (l' := #[vr (A 0), vi 0, vi p2, vd 4607182418800017408, ss, vd (FP.l2d rd), ss, vd 4607182418800017408, ss, vi 1, vr (A 12), vd 4607182418800017408, ss, vi 2]) rfl ?_
  refine Gol.aload X24 hx hby d20_73 75 rfl rfl rfl ?_
  refine Gol.iloadN X24 hx hby d20_75 76 rfl rfl ?_
  refine Gol.daload X24 hx hby hZ e24 (V_A12.keep K nn_A12) d20_76 77 rfl ⟨by decide, by decide⟩ (v := (0 : UInt64)) rfl ?_
  refine Gol.dstore X24 hx hby d20_77 79 rfl (l' := #[vr (A 0), vi 0, vi p2, vd 4607182418800017408, ss, vd (FP.l2d rd), ss, vd 4607182418800017408, ss, vi 1, vr (A 12), vd 0, ss, vi 2]) rfl ?_
  refine Gol.dload X24 hx hby d20_79 81 rfl rfl ?_
  refine Gol.dconst0 X24 hx hby d20_81 82 rfl (v := (0 : UInt64)) (by decide +kernel) ?_
  refine Gol.dcmp X24 hx hby d20_82 83 rfl (v := (0 : Int32)) (by decide +kernel) ?_
  refine Gol.ifYes X24 hx hby d20_83 135 (by decide) ((if0 _ _).trans (teq (by decide : (0 : Int32) = (0 : Int32))).1) ?_
  refine Gol.iinc X24 hx hby d20_135 138 rfl rfl (l' := #[vr (A 0), vi 0, vi p2, vd 4607182418800017408, ss, vd (FP.l2d rd), ss, vd 4607182418800017408, ss, vi 2, vr (A 12), vd 0, ss, vi 2]) rfl ?_
  refine Gol.goto X24 hx hby d20_138 55 (by decide) ?_
  refine Gol.iload X24 hx hby d20_55 57 rfl rfl ?_
  refine Gol.fB X24 hx hby hZ hown (w 36 _ rfl) e24 (B_A0.keep K nn_A0) 6 d20_57 d20_58 61 rfl rfl rfl rfl ?_
  intro T25 X25 e25
  refine Gol.icmpYes X25 hx hby d20_61 141 (by decide) (flt (by decide : ¬ ((2 : Int32) < (2 : Int32)))).2.1 ?_
  refine Gol.fB X25 hx hby hZ hown (w 67 _ rfl) e25 (B_A0.keep K nn_A0) 14 d20_141 d20_142 145 rfl rfl rfl rfl ?_
  intro T26 X26 e26
  refine Gol.fB X26 hx hby hZ hown (w 69 _ rfl) e26 (B_A0.keep K nn_A0) 15 d20_145 d20_146 149 rfl rfl rfl rfl ?_
  intro T27 X27 e27
  refine Gol.iloadN X27 hx hby d20_149 150 rfl rfl ?_
  refine Gol.iaload X27 hx hby hZ e27 V_A8 d20_150 151 rfl ⟨by decide, by decide⟩ (v := (4 : Int32)) rfl ?_
  refine Gol.iconst X27 hx hby d20_151 152 rfl (z := (-1 : Int32)) rfl ?_
  refine Gol.iastore X27 hx hby hZ e27 V_A7 d20_152 153 rfl ⟨by decide, by decide⟩ 4 rfl (Nat.le_of_ble_eq_true rfl) ?_
  intro T28 h28 X28 e28 W28 A28
  have V_A7 : Arv Z h28 (A 7) k_A7 .int (6 : Int32) [(.int x0), (.int x1), (.int (-1)), (.int (-1)), (.int (-1)), (.int y1)] (.int 0) := A28
  have V_A8 := V_A8.other W28 (D 8 7 rfl)
  have V_A13 := V_A13.other W28 (D 13 7 rfl)
  have V_A14 := V_A14.other W28 (D 14 7 rfl)
  have V_A9 := V_A9.other W28 (D 9 7 rfl)
  have V_A11 := V_A11.other W28 (D 11 7 rfl)
  have K := K.wr W28 (Or.inl (List.mem_of_getElem? (i := 0) rfl))
  have Zs := Nat.le_trans Zs (Keep.of_wr W28).1
  have N28 := Fr.snoc X28 N22 (G 7 rfl)
  refine Gol.fB X28 hx hby hZ hown (w 69 _ rfl) e28 (B_A0.keep K nn_A0) 15 d20_153 d20_154 157 rfl rfl rfl rfl ?_
  intro T29 X29 e29
  refine Gol.iloadN X29 hx hby d20_157 158 rfl rfl ?_
  refine Gol.iloadN X29 hx hby d20_158 159 rfl rfl ?_
  refine Gol.iastore X29 hx hby hZ e29 V_A8 d20_159 160 rfl ⟨by decide, by decide⟩ 0 rfl (Nat.le_of_ble_eq_true rfl) ?_
  intro T30 h30 X30 e30 W30 A30
  have V_A8 : Arv Z h30 (A 8) k_A8 .int (2 : Int32) [(.int p2), yb] (.int 0) := A30
  have V_A13 := V_A13.other W30 (D 13 8 rfl)
  have V_A14 := V_A14.other W30 (D 14 8 rfl)
  have V_A9 := V_A9.other W30 (D 9 8 rfl)
  have V_A11 := V_A11.other W30 (D 11 8 rfl)
  have V_A7 := V_A7.other W30 (D 7 8 rfl)
  have K := K.wr W30 (Or.inl (List.mem_of_getElem? (i := 1) rfl))
  have Zs := Nat.le_trans Zs (Keep.of_wr W30).1
  have N30 := Fr.snoc X30 N28 (G 8 rfl)
  refine Gol.fB X30 hx hby hZ hown (w 67 _ rfl) e30 (B_A0.keep K nn_A0) 14 d20_160 d20_161 164 rfl rfl rfl rfl ?_
  intro T31 X31 e31
  refine Gol.iloadN X31 hx hby d20_164 165 rfl rfl ?_
  refine Gol.iloadN X31 hx hby d20_165 166 rfl rfl ?_
  refine Gol.iastore X31 hx hby hZ e31 V_A7 d20_166 167 rfl (own_in6 ha) p2.toNatClampNeg rfl (own_len6 ha) ?_
  intro T32 h32 X32 e32 W32 A32
  have V_A7 : Arv Z h32 (A 7) k_A7 .int (6 : Int32) [(.int (sel p2 (0 : Int32) x0)), (.int (sel p2 x1 (0 : Int32))), (.int (-1)), (.int (-1)), (.int (-1)), (.int y1)] (.int 0) := (by have q := A32; rw [own_set6 ha] at q; exact q)
  have V_A13 := V_A13.other W32 (D 13 7 rfl)
  have V_A14 := V_A14.other W32 (D 14 7 rfl)
  have V_A9 := V_A9.other W32 (D 9 7 rfl)
  have V_A11 := V_A11.other W32 (D 11 7 rfl)
  have V_A8 := V_A8.other W32 (D 8 7 rfl)
  have K := K.wr W32 (Or.inl (List.mem_of_getElem? (i := 0) rfl))
  have Zs := Nat.le_trans Zs (Keep.of_wr W32).1
  have N32 := Fr.snoc X32 N30 (G 7 rfl)
  refine Gol.fB X32 hx hby hZ hown (w 75 _ rfl) e32 (B_A0.keep K nn_A0) 18 d20_167 d20_168 171 rfl rfl rfl rfl ?_
  intro T33 X33 e33
  refine Gol.iloadN X33 hx hby d20_171 172 rfl rfl ?_
  refine Gol.aloadN X33 hx hby d20_172 173 rfl rfl rfl ?_
  refine Gol.iloadN X33 hx hby d20_173 174 rfl rfl ?_
  refine Gol.callQ X33 hx hby hZ hown (z := zM0) 2 [(.int p2)] (a := (A 0)) (w 112 _ rfl) (w 113 _ rfl) (w 101 _ rfl) rfl (w 114 _ rfl) (w 10 _ rfl) (w 115 _ rfl) (by decide) (E_A0.keep K) (rmProD l Z a0 hw [] p2 A pp cc nx wk ps un op nd0 nd1 tk0 tk1 h32 n0 Zs (B_A0.keep K nn_A0) ⟨_, (V_A2.keep K nn_A2)⟩ ⟨_, (V_A3.keep K nn_A3)⟩ ha) (by decide) (by decide) e33 (by rw [hml]; rfl) (rest := [(.int 0), (.ref (A 13))]) (Nat.le_of_eq rfl) (by decide) (by decide) (lenOf pd_3 rfl) rfl d20_174 177 rfl ?_
  intro T34 v34 L34 X34 hQ34
  obtain ⟨rfl, Nq34, eq34⟩ := hQ34
  have N34 := Fr.app N32 Nq34
  show GolF _ _ _ _ _ _ _ T34 m 177 #[vr (A 0), vi 0, vi p2, vd 4607182418800017408, ss, vd (FP.l2d rd), ss, vd 4607182418800017408, ss, vi 2, vr (A 12), vd 0, ss, vi 2] [(.double (FP.l2d (prf p2 nd0 nd1 tk0 tk1))), (.int 0), (.ref (A 13))]
  refine Gol.dastore X34 hx hby hZ eq34 V_A13 d20_177 178 rfl ⟨by decide, by decide⟩ 0 rfl (Nat.le_of_ble_eq_true rfl) ?_
  intro T35 h35 X35 e35 W35 A35
  have V_A13 : Arv Z h35 (A 13) k_A13 .double (2 : Int32) [(.double (FP.l2d (prf p2 nd0 nd1 tk0 tk1))), zb] (.double 0) := A35
  have V_A14 := V_A14.other W35 (D 14 13 rfl)
  have V_A9 := V_A9.other W35 (D 9 13 rfl)
  have V_A11 := V_A11.other W35 (D 11 13 rfl)
  have V_A8 := V_A8.other W35 (D 8 13 rfl)
  have V_A7 := V_A7.other W35 (D 7 13 rfl)
  have K := K.wr W35 (Or.inl (List.mem_of_getElem? (i := 4) rfl))
  have N35 := Fr.snoc X35 N34 (G 13 rfl)
  refine Gol.iconst X35 hx hby d20_178 179 rfl (z := (0 : Int32)) rfl ?_
  refine Gol.istore X35 hx hby d20_179 181 rfl (l' := #[vr (A 0), vi 0, vi p2, vd 4607182418800017408, ss, vd (FP.l2d rd), ss, vd 4607182418800017408, ss, vi 0, vr (A 12), vd 0, ss, vi 2]) rfl ?_
  refine Gol.iload X35 hx hby d20_181 183 rfl rfl ?_
  refine Gol.fB X35 hx hby hZ hown (w 36 _ rfl) e35 (B_A0.keep K nn_A0) 6 d20_183 d20_184 187 rfl rfl rfl rfl ?_
  intro T36 X36 e36
  refine Gol.icmpNo X36 hx hby d20_187 190 rfl (tlt (by decide : (0 : Int32) < (2 : Int32))).2.1 ?_
  refine Gol.fB X36 hx hby hZ hown (w 77 _ rfl) e36 (B_A0.keep K nn_A0) 19 d20_190 d20_191 194 rfl rfl rfl rfl ?_
  intro T37 X37 e37
  refine Gol.iload X37 hx hby d20_194 196 rfl rfl ?_
  refine Gol.dup2 X37 hx hby d20_196 197 rfl rfl rfl ?_
  refine Gol.daload X37 hx hby hZ e37 V_A14 d20_197 198 rfl ⟨by decide, by decide⟩ (v := (0 : UInt64)) rfl ?_
  refine Gol.dload X37 hx hby d20_198 200 rfl rfl ?_
  refine Gol.fB X37 hx hby hZ hown (w 73 _ rfl) e37 (B_A0.keep K nn_A0) 17 d20_200 d20_201 204 rfl rfl rfl rfl ?_
  intro T38 X38 e38
  refine Gol.iload X38 hx hby d20_204 206 rfl rfl ?_
  refine Gol.aaload X38 hx hby hZ e38 (V_A10.keep K nn_A10) d20_206 207 rfl rfl ⟨by decide, by decide⟩ (v := (.ref (A 11))) rfl ?_
  refine Gol.iloadN X38 hx hby d20_207 208 rfl rfl ?_
  refine Gol.daload X38 hx hby hZ e38 V_A11 d20_208 209 rfl ⟨by decide, by decide⟩ (v := (4607182418800017408 : UInt64)) rfl ?_
  refine Gol.dmul X38 hx hby d20_209 210 rfl (v := (FP.l2d rd)) own_fin (own_mul1 hrb hrp) ?_
  refine Gol.dadd X38 hx hby d20_210 211 rfl (v := (FP.l2d rd)) own_fin (own_0add hrb) ?_
  refine Gol.dastore X38 hx hby hZ e38 V_A14 d20_211 212 rfl ⟨by decide, by decide⟩ 0 rfl (Nat.le_of_ble_eq_true rfl) ?_
  intro T39 h39 X39 e39 W39 A39
  have V_A14 : Arv Z h39 (A 14) k_A14 .double (2 : Int32) [(.double (FP.l2d rd)), (.double (FP.l2d Mo))] (.double 0) := A39
  have V_A9 := V_A9.other W39 (D 9 14 rfl)
  have V_A11 := V_A11.other W39 (D 11 14 rfl)
  have V_A8 := V_A8.other W39 (D 8 14 rfl)
  have V_A7 := V_A7.other W39 (D 7 14 rfl)
  have V_A13 := V_A13.other W39 (D 13 14 rfl)
  have K := K.wr W39 (Or.inl (List.mem_of_getElem? (i := 5) rfl))
  have N39 := Fr.snoc X39 N35 (G 14 rfl)
  refine Gol.iinc X39 hx hby d20_212 215 rfl rfl (l' := #[vr (A 0), vi 0, vi p2, vd 4607182418800017408, ss, vd (FP.l2d rd), ss, vd 4607182418800017408, ss, vi 1, vr (A 12), vd 0, ss, vi 2]) rfl ?_
  refine Gol.goto X39 hx hby d20_215 181 (by decide) ?_
  refine Gol.iload X39 hx hby d20_181 183 rfl rfl ?_
  refine Gol.fB X39 hx hby hZ hown (w 36 _ rfl) e39 (B_A0.keep K nn_A0) 6 d20_183 d20_184 187 rfl rfl rfl rfl ?_
  intro T40 X40 e40
  refine Gol.icmpNo X40 hx hby d20_187 190 rfl (tlt (by decide : (1 : Int32) < (2 : Int32))).2.1 ?_
  refine Gol.fB X40 hx hby hZ hown (w 77 _ rfl) e40 (B_A0.keep K nn_A0) 19 d20_190 d20_191 194 rfl rfl rfl rfl ?_
  intro T41 X41 e41
  refine Gol.iload X41 hx hby d20_194 196 rfl rfl ?_
  refine Gol.dup2 X41 hx hby d20_196 197 rfl rfl rfl ?_
  refine Gol.daload X41 hx hby hZ e41 V_A14 d20_197 198 rfl ⟨by decide, by decide⟩ (v := (FP.l2d Mo)) rfl ?_
  refine Gol.dload X41 hx hby d20_198 200 rfl rfl ?_
  refine Gol.fB X41 hx hby hZ hown (w 73 _ rfl) e41 (B_A0.keep K nn_A0) 17 d20_200 d20_201 204 rfl rfl rfl rfl ?_
  intro T42 X42 e42
  refine Gol.iload X42 hx hby d20_204 206 rfl rfl ?_
  refine Gol.aaload X42 hx hby hZ e42 (V_A10.keep K nn_A10) d20_206 207 rfl rfl ⟨by decide, by decide⟩ (v := (.ref (A 12))) rfl ?_
  refine Gol.iloadN X42 hx hby d20_207 208 rfl rfl ?_
  refine Gol.daload X42 hx hby hZ e42 (V_A12.keep K nn_A12) d20_208 209 rfl ⟨by decide, by decide⟩ (v := (0 : UInt64)) rfl ?_
  refine Gol.dmul X42 hx hby d20_209 210 rfl (v := (0 : UInt64)) (own_nn (by decide)) (own_mul0 hrb hrp) ?_
  refine Gol.dadd X42 hx hby d20_210 211 rfl (v := (FP.l2d Mo)) own_fin (own_add0 hMb) ?_
  refine Gol.dastore X42 hx hby hZ e42 V_A14 d20_211 212 rfl ⟨by decide, by decide⟩ 1 rfl (Nat.le_of_ble_eq_true rfl) ?_
  intro T43 h43 X43 e43 W43 A43
  have V_A14 : Arv Z h43 (A 14) k_A14 .double (2 : Int32) [(.double (FP.l2d rd)), (.double (FP.l2d Mo))] (.double 0) := A43
  have V_A9 := V_A9.other W43 (D 9 14 rfl)
  have V_A11 := V_A11.other W43 (D 11 14 rfl)
  have V_A8 := V_A8.other W43 (D 8 14 rfl)
  have V_A7 := V_A7.other W43 (D 7 14 rfl)
  have V_A13 := V_A13.other W43 (D 13 14 rfl)
  have K := K.wr W43 (Or.inl (List.mem_of_getElem? (i := 5) rfl))
  have N43 := Fr.snoc X43 N39 (G 14 rfl)
  refine Gol.iinc X43 hx hby d20_212 215 rfl rfl (l' := #[vr (A 0), vi 0, vi p2, vd 4607182418800017408, ss, vd (FP.l2d rd), ss, vd 4607182418800017408, ss, vi 2, vr (A 12), vd 0, ss, vi 2]) rfl ?_
  refine Gol.goto X43 hx hby d20_215 181 (by decide) ?_
  refine Gol.iload X43 hx hby d20_181 183 rfl rfl ?_
  refine Gol.fB X43 hx hby hZ hown (w 36 _ rfl) e43 (B_A0.keep K nn_A0) 6 d20_183 d20_184 187 rfl rfl rfl rfl ?_
  intro T44 X44 e44
  refine Gol.icmpYes X44 hx hby d20_187 218 (by decide) (flt (by decide : ¬ ((2 : Int32) < (2 : Int32)))).2.1 ?_
  exact Gol.ret0 X44 hx hby Bd.returns Bd.notSynchronized d20_218 e44 ⟨rfl, N43, K, ⟨_, V_A7⟩, ⟨_, V_A8⟩, ⟨_, V_A9⟩, ⟨_, V_A11⟩, ⟨_, V_A13⟩, ⟨_, V_A14⟩⟩ (by decide) (by decide)
theorem ef_Piv1 (m : MethodId) (p2 : Int32) (A : Nat → Addr) : entryFrame m #[(.ref (A 0)), (.int 1), (.int p2), (.double 4607182418800017408), (.double (FP.l2d rd))] 14 = mkF m 0 #[vr (A 0), vi 1, vi p2, vd 4607182418800017408, ss, vd (FP.l2d rd), ss, uu, uu, uu, uu, uu, uu, uu] [] := by first | (simp [entryFrame, mkF, argsToLocals, Value.category]; done) | rfl
abbrev QPiv1 (Z : State) (p2 : Int32) (A : Nat → Addr) (pp cc nx wk ps : Int32) (un : Int64) (op nd0 nd1 tk0 tk1 x0 x1 y0 y1 : Int32) (yb za zb : Value) (Mo rd : Int64) (h0 : Heap) (n0 : Nat) (v : Option Value) (h : Heap) (L : List Loc) : Prop := v = none ∧ Fr n0 L ∧ Keep h0 h [(A 7), (A 8), (A 9), (A 12), (A 13), (A 14)] ∧ Vv Z h (A 7) .int (6 : Int32) [(.int (sel p2 (1 : Int32) x0)), (.int (sel p2 x1 (1 : Int32))), (.int (-1)), (.int (-1)), (.int y0), (.int (-1))] (.int 0) ∧ Vv Z h (A 8) .int (2 : Int32) [yb, (.int p2)] (.int 0) ∧ Vv Z h (A 9) .double (2 : Int32) [(.double 4607182418800017408), (.double 4607182418800017408)] (.double 0) ∧ Vv Z h (A 12) .double (2 : Int32) [(.double 0), (.double 4607182418800017408)] (.double 0) ∧ Vv Z h (A 13) .double (2 : Int32) [zb, (.double (FP.l2d (prf p2 nd0 nd1 tk0 tk1)))] (.double 0) ∧ Vv Z h (A 14) .double (2 : Int32) [(.double (FP.l2d Mo)), (.double (FP.l2d rd))] (.double 0)
set_option maxRecDepth 65536 in
set_option maxHeartbeats 40000000 in
theorem rmPiv1 (l : Launch) (Z : State) (a0 : Array Value) (hw : TW a0 Z) (ws : List Jvm.Cond) (p2 : Int32) (A : Nat → Addr) (pp cc nx wk ps : Int32) (un : Int64) (op nd0 nd1 tk0 tk1 x0 x1 y0 y1 : Int32) (yb za zb : Value) (Mo rd : Int64) (h0 : Heap) (n0 : Nat) (Zs : n0 ≤ h0.size) (D : DisA A) (G : FreA A n0) (B_A0 : FL Z h0 (A 0) (rxv A pp cc nx wk ps un op)) (E_A0 : Exa Z h0 (A 0) "com/example/quorumstone/quorumstone/check/Relaxation") (P2 : Vv Z h0 (A 2) .int (2 : Int32) [(.int nd0), (.int nd1)] (.int 0)) (P3 : Vv Z h0 (A 3) .int (2 : Int32) [(.int tk0), (.int tk1)] (.int 0)) (P7 : Vv Z h0 (A 7) .int (6 : Int32) [(.int x0), (.int x1), (.int (-1)), (.int (-1)), (.int y0), (.int y1)] (.int 0)) (P8 : Vv Z h0 (A 8) .int (2 : Int32) [yb, (.int 5)] (.int 0)) (P9 : Vv Z h0 (A 9) .double (2 : Int32) [(.double 4607182418800017408), (.double 4607182418800017408)] (.double 0)) (P10 : Vv Z h0 (A 10) (.array .double) (2 : Int32) [(.ref (A 11)), (.ref (A 12))] .null) (P11 : Vv Z h0 (A 11) .double (2 : Int32) [(.double 4607182418800017408), (.double 0)] (.double 0)) (P12 : Vv Z h0 (A 12) .double (2 : Int32) [(.double 0), (.double 4607182418800017408)] (.double 0)) (P13 : Vv Z h0 (A 13) .double (2 : Int32) [zb, za] (.double 0)) (P14 : Vv Z h0 (A 14) .double (2 : Int32) [(.double (FP.l2d Mo)), (.double 0)] (.double 0)) (P15 : Vv Z h0 (A 15) .double (2 : Int32) [(.double 0), (.double 4607182418800017408)] (.double 0)) (ha : B01 p2) (hrb : B53 rd) (hrp : 0 < rd.toInt) (hMb : B53 Mo) :
    Mt l (⟨"com/example/quorumstone/quorumstone/check/Relaxation", "pivot", "(IIDD)V"⟩ : MethodName) prog_8_method_19_code 14 none ws (rmm 2 0 0 30) #[(.ref (A 0)), (.int 1), (.int p2), (.double 4607182418800017408), (.double (FP.l2d rd))] Z h0 (QPiv1 Z p2 A pp cc nx wk ps un op nd0 nd1 tk0 tk1 x0 x1 y0 y1 yb za zb Mo rd h0 n0) 0 0 := by
  refine own_body n0 (plainFor_of_name pn_20) hw (fun m => ef_Piv1 m p2 A) ?_
  intro p ev s m below meth c s₁ Bd hZ hx hby hml hown X0 eh0 N0 w
  obtain ⟨k_A2, V_A2⟩ := P2
  obtain ⟨k_A3, V_A3⟩ := P3
  obtain ⟨k_A7, V_A7⟩ := P7
  obtain ⟨k_A8, V_A8⟩ := P8
  obtain ⟨k_A9, V_A9⟩ := P9
  obtain ⟨k_A10, V_A10⟩ := P10
  obtain ⟨k_A11, V_A11⟩ := P11
  obtain ⟨k_A12, V_A12⟩ := P12
  obtain ⟨k_A13, V_A13⟩ := P13
  obtain ⟨k_A14, V_A14⟩ := P14
  obtain ⟨k_A15, V_A15⟩ := P15
  have nn_A2 : (A 2) ∉ [(A 7), (A 8), (A 9), (A 12), (A 13), (A 14)] := (nnA D 2 [7, 8, 9, 12, 13, 14] rfl)
  have nn_A3 : (A 3) ∉ [(A 7), (A 8), (A 9), (A 12), (A 13), (A 14)] := (nnA D 3 [7, 8, 9, 12, 13, 14] rfl)
  have nn_A10 : (A 10) ∉ [(A 7), (A 8), (A 9), (A 12), (A 13), (A 14)] := (nnA D 10 [7, 8, 9, 12, 13, 14] rfl)
  have nn_A11 : (A 11) ∉ [(A 7), (A 8), (A 9), (A 12), (A 13), (A 14)] := (nnA D 11 [7, 8, 9, 12, 13, 14] rfl)
  have nn_A15 : (A 15) ∉ [(A 7), (A 8), (A 9), (A 12), (A 13), (A 14)] := (nnA D 15 [7, 8, 9, 12, 13, 14] rfl)
  have nn_A0 : (A 0) ∉ [(A 7), (A 8), (A 9), (A 12), (A 13), (A 14)] := (nnA D 0 [7, 8, 9, 12, 13, 14] rfl)
  have K := Keep.refl h0 [(A 7), (A 8), (A 9), (A 12), (A 13), (A 14)]
  show GolF _ _ _ _ _ _ _ s₁ m 0 #[vr (A 0), vi 1, vi p2, vd 4607182418800017408, ss, vd (FP.l2d rd), ss, uu, uu, uu, uu, uu, uu, uu] []
  refine Gol.iconst X0 hx hby d20_0 1 rfl (z := (0 : Int32)) rfl ?_
  refine Gol.istore X0 hx hby d20_1 3 rfl (l' := #[vr (A 0), vi 1, vi p2, vd 4607182418800017408, ss, vd (FP.l2d rd), ss, vi 0, uu, uu, uu, uu, uu, uu]) rfl ?_
  refine Gol.iload X0 hx hby d20_3 5 rfl rfl ?_
  refine Gol.fB X0 hx hby hZ hown (w 36 _ rfl) eh0 B_A0 6 d20_5 d20_6 9 rfl rfl rfl rfl ?_
  intro T1 X1 e1
  refine Gol.icmpNo X1 hx hby d20_9 12 rfl (tlt (by decide : (0 : Int32) < (2 : Int32))).2.1 ?_
  refine Gol.fB X1 hx hby hZ hown (w 71 _ rfl) e1 B_A0 16 d20_12 d20_13 16 rfl rfl rfl rfl ?_
  intro T2 X2 e2
  refine Gol.iload X2 hx hby d20_16 18 rfl rfl ?_
  refine Gol.dup2 X2 hx hby d20_18 19 rfl rfl rfl ?_
  refine Gol.daload X2 hx hby hZ e2 V_A9 d20_19 20 rfl ⟨by decide, by decide⟩ (v := (4607182418800017408 : UInt64)) rfl ?_
  refine Gol.dloadN X2 hx hby d20_20 21 rfl rfl ?_
  refine Gol.fB X2 hx hby hZ hown (w 79 _ rfl) e2 B_A0 20 d20_21 d20_22 25 rfl rfl rfl rfl ?_
  intro T3 X3 e3
  refine Gol.iload X3 hx hby d20_25 27 rfl rfl ?_
  refine Gol.daload X3 hx hby hZ e3 V_A15 d20_27 28 rfl ⟨by decide, by decide⟩ (v := (0 : UInt64)) rfl ?_
  refine Gol.dmul X3 hx hby d20_28 29 rfl (v := (0 : UInt64)) (own_nn (by decide)) (by decide +kernel) ?_
  refine Gol.dsub X3 hx hby d20_29 30 rfl (v := (4607182418800017408 : UInt64)) (own_nn (by decide)) (by decide +kernel) ?_
  refine Gol.dastore X3 hx hby hZ e3 V_A9 d20_30 31 rfl ⟨by decide, by decide⟩ 0 rfl (Nat.le_of_ble_eq_true rfl) ?_
  intro T4 h4 X4 e4 W4 A4
  have V_A9 : Arv Z h4 (A 9) k_A9 .double (2 : Int32) [(.double 4607182418800017408), (.double 4607182418800017408)] (.double 0) := A4
  have V_A7 := V_A7.other W4 (D 7 9 rfl)
  have V_A8 := V_A8.other W4 (D 8 9 rfl)
  have V_A12 := V_A12.other W4 (D 12 9 rfl)
  have V_A13 := V_A13.other W4 (D 13 9 rfl)
  have V_A14 := V_A14.other W4 (D 14 9 rfl)
  have K := K.wr W4 (Or.inl (List.mem_of_getElem? (i := 2) rfl))
  have Zs := Nat.le_trans Zs (Keep.of_wr W4).1
  have N4 := Fr.snoc X4 N0 (G 9 rfl)
  refine Gol.iinc X4 hx hby d20_31 34 rfl rfl (l' := #[vr (A 0), vi 1, vi p2, vd 4607182418800017408, ss, vd (FP.l2d rd), ss, vi 1, uu, uu, uu, uu, uu, uu]) rfl ?_
  refine Gol.goto X4 hx hby d20_34 3 (by decide) ?_
  refine Gol.iload X4 hx hby d20_3 5 rfl rfl ?_
  refine Gol.fB X4 hx hby hZ hown (w 36 _ rfl) e4 (B_A0.keep K nn_A0) 6 d20_5 d20_6 9 rfl rfl rfl rfl ?_
  intro T5 X5 e5
  refine Gol.icmpNo X5 hx hby d20_9 12 rfl (tlt (by decide : (1 : Int32) < (2 : Int32))).2.1 ?_
  refine Gol.fB X5 hx hby hZ hown (w 71 _ rfl) e5 (B_A0.keep K nn_A0) 16 d20_12 d20_13 16 rfl rfl rfl rfl ?_
  intro T6 X6 e6
  refine Gol.iload X6 hx hby d20_16 18 rfl rfl ?_
  refine Gol.dup2 X6 hx hby d20_18 19 rfl rfl rfl ?_
  refine Gol.daload X6 hx hby hZ e6 V_A9 d20_19 20 rfl ⟨by decide, by decide⟩ (v := (4607182418800017408 : UInt64)) rfl ?_
  refine Gol.dloadN X6 hx hby d20_20 21 rfl rfl ?_
  refine Gol.fB X6 hx hby hZ hown (w 79 _ rfl) e6 (B_A0.keep K nn_A0) 20 d20_21 d20_22 25 rfl rfl rfl rfl ?_
  intro T7 X7 e7
  refine Gol.iload X7 hx hby d20_25 27 rfl rfl ?_
  refine Gol.daload X7 hx hby hZ e7 (V_A15.keep K nn_A15) d20_27 28 rfl ⟨by decide, by decide⟩ (v := (4607182418800017408 : UInt64)) rfl ?_
  refine Gol.dmul X7 hx hby d20_28 29 rfl (v := (4607182418800017408 : UInt64)) (own_nn (by decide)) (by decide +kernel) ?_
  refine Gol.dsub X7 hx hby d20_29 30 rfl (v := (0 : UInt64)) (own_nn (by decide)) (by decide +kernel) ?_
  refine Gol.dastore X7 hx hby hZ e7 V_A9 d20_30 31 rfl ⟨by decide, by decide⟩ 1 rfl (Nat.le_of_ble_eq_true rfl) ?_
  intro T8 h8 X8 e8 W8 A8
  have V_A9 : Arv Z h8 (A 9) k_A9 .double (2 : Int32) [(.double 4607182418800017408), (.double 0)] (.double 0) := A8
  have V_A7 := V_A7.other W8 (D 7 9 rfl)
  have V_A8 := V_A8.other W8 (D 8 9 rfl)
  have V_A12 := V_A12.other W8 (D 12 9 rfl)
  have V_A13 := V_A13.other W8 (D 13 9 rfl)
  have V_A14 := V_A14.other W8 (D 14 9 rfl)
  have K := K.wr W8 (Or.inl (List.mem_of_getElem? (i := 2) rfl))
  have Zs := Nat.le_trans Zs (Keep.of_wr W8).1
  have N8 := Fr.snoc X8 N4 (G 9 rfl)
  refine Gol.iinc X8 hx hby d20_31 34 rfl rfl (l' := #[vr (A 0), vi 1, vi p2, vd 4607182418800017408, ss, vd (FP.l2d rd), ss, vi 2, uu, uu, uu, uu, uu, uu]) rfl ?_
  refine Gol.goto X8 hx hby d20_34 3 (by decide) ?_
  refine Gol.iload X8 hx hby d20_3 5 rfl rfl ?_
  refine Gol.fB X8 hx hby hZ hown (w 36 _ rfl) e8 (B_A0.keep K nn_A0) 6 d20_5 d20_6 9 rfl rfl rfl rfl ?_
  intro T9 X9 e9
  refine Gol.icmpYes X9 hx hby d20_9 37 (by decide) (flt (by decide : ¬ ((2 : Int32) < (2 : Int32)))).2.1 ?_
  refine Gol.fB X9 hx hby hZ hown (w 71 _ rfl) e9 (B_A0.keep K nn_A0) 16 d20_37 d20_38 41 rfl rfl rfl rfl ?_
  intro T10 X10 e10
  refine Gol.iloadN X10 hx hby d20_41 42 rfl rfl ?_
  refine Gol.dloadN X10 hx hby d20_42 43 rfl rfl ?_
  refine Gol.dastore X10 hx hby hZ e10 V_A9 d20_43 44 rfl ⟨by decide, by decide⟩ 1 rfl (Nat.le_of_ble_eq_true rfl) ?_
  intro T11 h11 X11 e11 W11 A11
  have V_A9 : Arv Z h11 (A 9) k_A9 .double (2 : Int32) [(.double 4607182418800017408), (.double 4607182418800017408)] (.double 0) := A11
  have V_A7 := V_A7.other W11 (D 7 9 rfl)
  have V_A8 := V_A8.other W11 (D 8 9 rfl)
  have V_A12 := V_A12.other W11 (D 12 9 rfl)
  have V_A13 := V_A13.other W11 (D 13 9 rfl)
  have V_A14 := V_A14.other W11 (D 14 9 rfl)
  have K := K.wr W11 (Or.inl (List.mem_of_getElem? (i := 2) rfl))
  have Zs := Nat.le_trans Zs (Keep.of_wr W11).1
  have N11 := Fr.snoc X11 N8 (G 9 rfl)
  refine Gol.fB X11 hx hby hZ hown (w 79 _ rfl) e11 (B_A0.keep K nn_A0) 20 d20_44 d20_45 48 rfl rfl rfl rfl ?_
  intro T12 X12 e12
  refine Gol.iloadN X12 hx hby d20_48 49 rfl rfl ?_
  refine Gol.daload X12 hx hby hZ e12 (V_A15.keep K nn_A15) d20_49 50 rfl ⟨by decide, by decide⟩ (v := (4607182418800017408 : UInt64)) rfl ?_
  refine Gol.dstore X12 hx hby d20_50 52 rfl (l' := #[vr (A 0), vi 1, vi p2, vd 4607182418800017408, ss, vd (FP.l2d rd), ss, vd 4607182418800017408, ss, uu, uu, uu, uu, uu]) rfl ?_
  refine Gol.iconst X12 hx hby d20_52 53 rfl (z := (0 : Int32)) rfl ?_
  refine Gol.istore X12 hx hby d20_53 55 rfl (l' := #[vr (A 0), vi 1, vi p2, vd 4607182418800017408, ss, vd (FP.l2d rd), ss, vd 4607182418800017408, ss, vi 0, uu, uu, uu, uu]) rfl ?_
  refine Gol.iload X12 hx hby d20_55 57 rfl rfl ?_
  refine Gol.fB X12 hx hby hZ hown (w 36 _ rfl) e12 (B_A0.keep K nn_A0) 6 d20_57 d20_58 61 rfl rfl rfl rfl ?_
  intro T13 X13 e13
  refine Gol.icmpNo X13 hx hby d20_61 64 rfl (tlt (by decide : (0 : Int32) < (2 : Int32))).2.1 ?_
  refine Gol.fB X13 hx hby hZ hown (w 73 _ rfl) e13 (B_A0.keep K nn_A0) 17 d20_64 d20_65 68 rfl rfl rfl rfl ?_
  intro T14 X14 e14
  refine Gol.iload X14 hx hby d20_68 70 rfl rfl ?_
  refine Gol.aaload X14 hx hby hZ e14 (V_A10.keep K nn_A10) d20_70 71 rfl rfl ⟨by decide, by decide⟩ (v := (.ref (A 11))) rfl ?_
  refine Gol.astore X14 hx hby d20_71 73 rfl rfl (l' := #[vr (A 0), vi 1, vi p2, vd 4607182418800017408, ss, vd (FP.l2d rd), ss, vd 4607182418800017408, ss, vi 0, vr (A 11), uu, uu, uu]) rfl ?_
  refine Gol.aload X14 hx hby d20_73 75 rfl rfl rfl ?_
  refine Gol.iloadN X14 hx hby d20_75 76 rfl rfl ?_
  refine Gol.daload X14 hx hby hZ e14 (V_A11.keep K nn_A11) d20_76 77 rfl ⟨by decide, by decide⟩ (v := (0 : UInt64)) rfl ?_
  refine Gol.dstore X14 hx hby d20_77 79 rfl (l' := #[vr (A 0), vi 1, vi p2, vd 4607182418800017408, ss, vd (FP.l2d rd), ss, vd 4607182418800017408, ss, vi 0, vr (A 11), vd 0, ss, uu]) rfl ?_
  refine Gol.dload X14 hx hby d20_79 81 rfl rfl ?_
  refine Gol.dconst0 X14 hx hby d20_81 82 rfl (v := (0 : UInt64)) (by decide +kernel) ?_
  refine Gol.dcmp X14 hx hby d20_82 83 rfl (v := (0 : Int32)) (by decide +kernel) ?_
  refine Gol.ifYes X14 hx hby d20_83 135 (by decide) ((if0 _ _).trans (teq (by decide : (0 : Int32) = (0 : Int32))).1) ?_
  refine Gol.iinc X14 hx hby d20_135 138 rfl rfl (l' := #[vr (A 0), vi 1, vi p2, vd 4607182418800017408, ss, vd (FP.l2d rd), ss, vd 4607182418800017408, ss, vi 1, vr (A 11), vd 0, ss, uu]) rfl ?_
  refine Gol.goto X14 hx hby d20_138 55 (by decide) ?_
  refine Gol.iload X14 hx hby d20_55 57 rfl rfl ?_
  refine Gol.fB X14 hx hby hZ hown (w 36 _ rfl) e14 (B_A0.keep K nn_A0) 6 d20_57 d20_58 61 rfl rfl rfl rfl ?_
  intro T15 X15 e15
  refine Gol.icmpNo X15 hx hby d20_61 64 rfl (tlt (by decide : (1 : Int32) < (2 : Int32))).2.1 ?_
  refine Gol.fB X15 hx hby hZ hown (w 73 _ rfl) e15 (B_A0.keep K nn_A0) 17 d20_64 d20_65 68 rfl rfl rfl rfl ?_
  intro T16 X16 e16
  refine Gol.iload X16 hx hby d20_68 70 rfl rfl ?_
  refine Gol.aaload X16 hx hby hZ e16 (V_A10.keep K nn_A10) d20_70 71 rfl rfl ⟨by decide, by decide⟩ (v := (.ref (A 12))) rfl ?_
  refine Gol.astore X16 hx hby d20_71 73 rfl rfl (l' := #[vr (A 0), vi 1, vi p2, vd 4607182418800017408, ss, vd (FP.l2d rd), ss, vd 4607182418800017408, ss, vi 1, vr (A 12), vd 0, ss, uu]) rfl ?_
  refine Gol.aload X16 hx hby d20_73 75 rfl rfl rfl ?_
  refine Gol.iloadN X16 hx hby d20_75 76 rfl rfl ?_
  refine Gol.daload X16 hx hby hZ e16 V_A12 d20_76 77 rfl ⟨by decide, by decide⟩ (v := (4607182418800017408 : UInt64)) rfl ?_
  refine Gol.dstore X16 hx hby d20_77 79 rfl (l' := #[vr (A 0), vi 1, vi p2, vd 4607182418800017408, ss, vd (FP.l2d rd), ss, vd 4607182418800017408, ss, vi 1, vr (A 12), vd 4607182418800017408, ss, uu]) rfl ?_
  refine Gol.dload X16 hx hby d20_79 81 rfl rfl ?_
  refine Gol.dconst0 X16 hx hby d20_81 82 rfl (v := (0 : UInt64)) (by decide +kernel) ?_
  refine Gol.dcmp X16 hx hby d20_82 83 rfl (v := (1 : Int32)) (by decide +kernel) ?_
  refine Gol.ifNo X16 hx hby d20_83 86 rfl ((if0 _ _).trans (feq (by decide : ¬ ((1 : Int32) = (0 : Int32)))).1) ?_
  refine Gol.dload X16 hx hby d20_86 88 rfl rfl ?_
  refine Gol.dload X16 hx hby d20_88 90 rfl rfl ?_
  refine Gol.ddiv X16 hx hby d20_90 91 rfl (v := (4607182418800017408 : UInt64)) (own_nn (by decide)) (by decide +kernel) ?_
  refine Gol.dstore X16 hx hby d20_91 93 rfl (l' := #[vr (A 0), vi 1, vi p2, vd 4607182418800017408, ss, vd (FP.l2d rd), ss, vd 4607182418800017408, ss, vi 1, vr (A 12), vd 4607182418800017408, ss, uu]) rfl ?_
  refine Gol.iconst X16 hx hby d20_93 94 rfl (z := (0 : Int32)) rfl ?_
  refine Gol.istore X16 hx hby d20_94 96 rfl (l' := #[vr (A 0), vi 1, vi p2, vd 4607182418800017408, ss, vd (FP.l2d rd), ss, vd 4607182418800017408, ss, vi 1, vr (A 12), vd 4607182418800017408, ss, vi 0]) rfl ?_
  refine Gol.iload X16 hx hby d20_96 98 rfl rfl ?_
  refine Gol.fB X16 hx hby hZ hown (w 36 _ rfl) e16 (B_A0.keep K nn_A0) 6 d20_98 d20_99 102 rfl rfl rfl rfl ?_
  intro T17 X17 e17
  refine Gol.icmpNo X17 hx hby d20_102 105 rfl (tlt (by decide : (0 : Int32) < (2 : Int32))).2.1 ?_
  refine Gol.aload X17 hx hby d20_105 107 rfl rfl rfl ?_
  refine Gol.iload X17 hx hby d20_107 109 rfl rfl ?_
  refine Gol.dup2 X17 hx hby d20_109 110 rfl rfl rfl ?_
  refine Gol.daload X17 hx hby hZ e17 V_A12 d20_110 111 rfl ⟨by decide, by decide⟩ (v := (0 : UInt64)) rfl ?_
  refine Gol.fB X17 hx hby hZ hown (w 79 _ rfl) e17 (B_A0.keep K nn_A0) 20 d20_111 d20_112 115 rfl rfl rfl rfl ?_
  intro T18 X18 e18
  refine Gol.iload X18 hx hby d20_115 117 rfl rfl ?_
  refine Gol.daload X18 hx hby hZ e18 (V_A15.keep K nn_A15) d20_117 118 rfl ⟨by decide, by decide⟩ (v := (0 : UInt64)) rfl ?_
  refine Gol.dload X18 hx hby d20_118 120 rfl rfl ?_
  refine Gol.dmul X18 hx hby d20_120 121 rfl (v := (0 : UInt64)) (own_nn (by decide)) (by decide +kernel) ?_
  refine Gol.dsub X18 hx hby d20_121 122 rfl (v := (0 : UInt64)) (own_nn (by decide)) (by decide +kernel) ?_
  refine Gol.dastore X18 hx hby hZ e18 V_A12 d20_122 123 rfl ⟨by decide, by decide⟩ 0 rfl (Nat.le_of_ble_eq_true rfl) ?_
  intro T19 h19 X19 e19 W19 A19
  have V_A12 : Arv Z h19 (A 12) k_A12 .double (2 : Int32) [(.double 0), (.double 4607182418800017408)] (.double 0) := A19
  have V_A7 := V_A7.other W19 (D 7 12 rfl)
  have V_A8 := V_A8.other W19 (D 8 12 rfl)
  have V_A13 := V_A13.other W19 (D 13 12 rfl)
  have V_A14 := V_A14.other W19 (D 14 12 rfl)
  have V_A9 := V_A9.other W19 (D 9 12 rfl)
  have K := K.wr W19 (Or.inl (List.mem_of_getElem? (i := 3) rfl))
  have Zs := Nat.le_trans Zs (Keep.of_wr W19).1
  have N19 := Fr.snoc X19 N11 (G 12 rfl)
  refine Gol.iinc X19 hx hby d20_123 126 rfl rfl (l' := #[vr (A 0), vi 1, vi p2, vd 4607182418800017408, ss, vd (FP.l2d rd), ss, vd 4607182418800017408, ss, vi 1, vr (A 12), vd 4607182418800017408, ss, vi 1]) rfl ?_
  refine Gol.goto X19 hx hby d20_126 96 (by decide) ?_
  refine Gol.iload X19 hx hby d20_96 98 rfl rfl ?_
  refine Gol.fB X19 hx hby hZ hown (w 36 _ rfl) e19 (B_A0.keep K nn_A0) 6 d20_98 d20_99 102 rfl rfl rfl rfl ?_
  intro T20 X20 e20
  refine Gol.icmpNo X20 hx hby d20_102 105 rfl (tlt (by decide : (1 : Int32) < (2 : Int32))).2.1 ?_
  refine Gol.aload X20 hx hby d20_105 107 rfl rfl rfl ?_
  refine Gol.iload X20 hx hby d20_107 109 rfl rfl ?_
  refine Gol.dup2 X20 hx hby d20_109 110 rfl rfl rfl ?_
  refine Gol.daload X20 hx hby hZ e20 V_A12 d20_110 111 rfl ⟨by decide, by decide⟩ (v := (4607182418800017408 : UInt64)) rfl ?_
  refine Gol.fB X20 hx hby hZ hown (w 79 _ rfl) e20 (B_A0.keep K nn_A0) 20 d20_111 d20_112 115 rfl rfl rfl rfl ?_
  intro T21 X21 e21
  refine Gol.iload X21 hx hby d20_115 117 rfl rfl ?_
  refine Gol.daload X21 hx hby hZ e21 (V_A15.keep K nn_A15) d20_117 118 rfl ⟨by decide, by decide⟩ (v := (4607182418800017408 : UInt64)) rfl ?_
  refine Gol.dload X21 hx hby d20_118 120 rfl rfl ?_
  refine Gol.dmul X21 hx hby d20_120 121 rfl (v := (4607182418800017408 : UInt64)) (own_nn (by decide)) (by decide +kernel) ?_
  refine Gol.dsub X21 hx hby d20_121 122 rfl (v := (0 : UInt64)) (own_nn (by decide)) (by decide +kernel) ?_
  refine Gol.dastore X21 hx hby hZ e21 V_A12 d20_122 123 rfl ⟨by decide, by decide⟩ 1 rfl (Nat.le_of_ble_eq_true rfl) ?_
  intro T22 h22 X22 e22 W22 A22
  have V_A12 : Arv Z h22 (A 12) k_A12 .double (2 : Int32) [(.double 0), (.double 0)] (.double 0) := A22
  have V_A7 := V_A7.other W22 (D 7 12 rfl)
  have V_A8 := V_A8.other W22 (D 8 12 rfl)
  have V_A13 := V_A13.other W22 (D 13 12 rfl)
  have V_A14 := V_A14.other W22 (D 14 12 rfl)
  have V_A9 := V_A9.other W22 (D 9 12 rfl)
  have K := K.wr W22 (Or.inl (List.mem_of_getElem? (i := 3) rfl))
  have Zs := Nat.le_trans Zs (Keep.of_wr W22).1
  have N22 := Fr.snoc X22 N19 (G 12 rfl)
  refine Gol.iinc X22 hx hby d20_123 126 rfl rfl (l' := #[vr (A 0), vi 1, vi p2, vd 4607182418800017408, ss, vd (FP.l2d rd), ss, vd 4607182418800017408, ss, vi 1, vr (A 12), vd 4607182418800017408, ss, vi 2]) rfl ?_
  refine Gol.goto X22 hx hby d20_126 96 (by decide) ?_
  refine Gol.iload X22 hx hby d20_96 98 rfl rfl ?_
  refine Gol.fB X22 hx hby hZ hown (w 36 _ rfl) e22 (B_A0.keep K nn_A0) 6 d20_98 d20_99 102 rfl rfl rfl rfl ?_
  intro T23 X23 e23
  refine Gol.icmpYes X23 hx hby d20_102 129 (by decide) (flt (by decide : ¬ ((2 : Int32) < (2 : Int32)))).2.1 ?_
  refine Gol.aload X23 hx hby d20_129 131 rfl rfl rfl ?_
  refine Gol.iloadN X23 hx hby d20_131 132 rfl rfl ?_
  refine Gol.dload X23 hx hby d20_132 134 rfl rfl ?_
  refine Gol.dastore X23 hx hby hZ e23 V_A12 d20_134 135 rfl ⟨by decide, by decide⟩ 1 rfl (Nat.le_of_ble_eq_true rfl) ?_
  intro T24 h24 X24 e24 W24 A24
  have V_A12 : Arv Z h24 (A 12) k_A12 .double (2 : Int32) [(.double 0), (.double 4607182418800017408)] (.double 0) := A24
  have V_A7 := V_A7.other W24 (D 7 12 rfl)
  have V_A8 := V_A8.other W24 (D 8 12 rfl)
  have V_A13 := V_A13.other W24 (D 13 12 rfl)
  have V_A14 := V_A14.other W24 (D 14 12 rfl)
  have V_A9 := V_A9.other W24 (D 9 12 rfl)
  have K := K.wr W24 (Or.inl (List.mem_of_getElem? (i := 3) rfl))
  have Zs := Nat.le_trans Zs (Keep.of_wr W24).1
  have N24 := Fr.snoc X24 N22 (G 12 rfl)
  refine Gol.iinc X24 hx hby d20_135 138 rfl rfl (l' := #[vr (A 0), vi 1, vi p2, vd 4607182418800017408, ss, vd (FP.l2d rd), ss, vd 4607182418800017408, ss, vi 2, vr (A 12), vd 4607182418800017408, ss, vi 2]) rfl ?_
  refine Gol.goto X24 hx hby d20_138 55 (by decide) ?_
  refine Gol.iload X24 hx hby d20_55 57 rfl rfl ?_
  refine Gol.fB X24 hx hby hZ hown (w 36 _ rfl) e24 (B_A0.keep K nn_A0) 6 d20_57 d20_58 61 rfl rfl rfl rfl ?_
  intro T25 X25 e25
  refine Gol.icmpYes X25 hx hby d20_61 141 (by decide) (flt (by decide : ¬ ((2 : Int32) < (2 : Int32)))).2.1 ?_
  refine Gol.fB X25 hx hby hZ hown (w 67 _ rfl) e25 (B_A0.keep K nn_A0) 14 d20_141 d20_142 145 rfl rfl rfl rfl ?_
  intro T26 X26 e26
  refine Gol.fB X26 hx hby hZ hown (w 69 _ rfl) e26 (B_A0.keep K nn_A0) 15 d20_145 d20_146 149 rfl rfl rfl rfl ?_
  intro T27 X27 e27
  refine Gol.iloadN X27 hx hby d20_149 150 rfl rfl ?_
  refine Gol.iaload X27 hx hby hZ e27 V_A8 d20_150 151 rfl ⟨by decide, by decide⟩ (v := (5 : Int32)) rfl ?_
  refine Gol.iconst X27 hx hby d20_151 152 rfl (z := (-1 : Int32)) rfl ?_
  refine Gol.iastore X27 hx hby hZ e27 V_A7 d20_152 153 rfl ⟨by decide, by decide⟩ 5 rfl (Nat.le_of_ble_eq_true rfl) ?_
  intro T28 h28 X28 e28 W28 A28
  have V_A7 : Arv Z h28 (A 7) k_A7 .int (6 : Int32) [(.int x0), (.int x1), (.int (-1)), (.int (-1)), (.int y0), (.int (-1))] (.int 0) := A28
  have V_A8 := V_A8.other W28 (D 8 7 rfl)
  have V_A13 := V_A13.other W28 (D 13 7 rfl)
  have V_A14 := V_A14.other W28 (D 14 7 rfl)
  have V_A9 := V_A9.other W28 (D 9 7 rfl)
  have V_A12 := V_A12.other W28 (D 12 7 rfl)
  have K := K.wr W28 (Or.inl (List.mem_of_getElem? (i := 0) rfl))
  have Zs := Nat.le_trans Zs (Keep.of_wr W28).1
  have N28 := Fr.snoc X28 N24 (G 7 rfl)
  refine Gol.fB X28 hx hby hZ hown (w 69 _ rfl) e28 (B_A0.keep K nn_A0) 15 d20_153 d20_154 157 rfl rfl rfl rfl ?_
  intro T29 X29 e29
  refine Gol.iloadN X29 hx hby d20_157 158 rfl rfl ?_
  refine Gol.iloadN X29 hx hby d20_158 159 rfl rfl ?_
  refine Gol.iastore X29 hx hby hZ e29 V_A8 d20_159 160 rfl ⟨by decide, by decide⟩ 1 rfl (Nat.le_of_ble_eq_true rfl) ?_
  intro T30 h30 X30 e30 W30 A30
  have V_A8 : Arv Z h30 (A 8) k_A8 .int (2 : Int32) [yb, (.int p2)] (.int 0) := A30
  have V_A13 := V_A13.other W30 (D 13 8 rfl)
  have V_A14 := V_A14.other W30 (D 14 8 rfl)
  have V_A9 := V_A9.other W30 (D 9 8 rfl)
  have V_A12 := V_A12.other W30 (D 12 8 rfl)
  have V_A7 := V_A7.other W30 (D 7 8 rfl)
  have K := K.wr W30 (Or.inl (List.mem_of_getElem? (i := 1) rfl))
  have Zs := Nat.le_trans Zs (Keep.of_wr W30).1
  have N30 := Fr.snoc X30 N28 (G 8 rfl)
  refine Gol.fB X30 hx hby hZ hown (w 67 _ rfl) e30 (B_A0.keep K nn_A0) 14 d20_160 d20_161 164 rfl rfl rfl rfl ?_
  intro T31 X31 e31
  refine Gol.iloadN X31 hx hby d20_164 165 rfl rfl ?_
  refine Gol.iloadN X31 hx hby d20_165 166 rfl rfl ?_
  refine Gol.iastore X31 hx hby hZ e31 V_A7 d20_166 167 rfl (own_in6 ha) p2.toNatClampNeg rfl (own_len6 ha) ?_
  intro T32 h32 X32 e32 W32 A32
  have V_A7 : Arv Z h32 (A 7) k_A7 .int (6 : Int32) [(.int (sel p2 (1 : Int32) x0)), (.int (sel p2 x1 (1 : Int32))), (.int (-1)), (.int (-1)), (.int y0), (.int (-1))] (.int 0) := (by have q := A32; rw [own_set6 ha] at q; exact q)
  have V_A13 := V_A13.other W32 (D 13 7 rfl)
  have V_A14 := V_A14.other W32 (D 14 7 rfl)
  have V_A9 := V_A9.other W32 (D 9 7 rfl)
  have V_A12 := V_A12.other W32 (D 12 7 rfl)
  have V_A8 := V_A8.other W32 (D 8 7 rfl)
  have K := K.wr W32 (Or.inl (List.mem_of_getElem? (i := 0) rfl))
  have Zs := Nat.le_trans Zs (Keep.of_wr W32).1
  have N32 := Fr.snoc X32 N30 (G 7 rfl)
  refine Gol.fB X32 hx hby hZ hown (w 75 _ rfl) e32 (B_A0.keep K nn_A0) 18 d20_167 d20_168 171 rfl rfl rfl rfl ?_
  intro T33 X33 e33
  refine Gol.iloadN X33 hx hby d20_171 172 rfl rfl ?_
  refine Gol.aloadN X33 hx hby d20_172 173 rfl rfl rfl ?_
  refine Gol.iloadN X33 hx hby d20_173 174 rfl rfl ?_
  refine Gol.callQ X33 hx hby hZ hown (z := zM0) 2 [(.int p2)] (a := (A 0)) (w 112 _ rfl) (w 113 _ rfl) (w 101 _ rfl) rfl (w 114 _ rfl) (w 10 _ rfl) (w 115 _ rfl) (by decide) (E_A0.keep K) (rmProD l Z a0 hw [] p2 A pp cc nx wk ps un op nd0 nd1 tk0 tk1 h32 n0 Zs (B_A0.keep K nn_A0) ⟨_, (V_A2.keep K nn_A2)⟩ ⟨_, (V_A3.keep K nn_A3)⟩ ha) (by decide) (by decide) e33 (by rw [hml]; rfl) (rest := [(.int 1), (.ref (A 13))]) (Nat.le_of_eq rfl) (by decide) (by decide) (lenOf pd_3 rfl) rfl d20_174 177 rfl ?_
  intro T34 v34 L34 X34 hQ34
  obtain ⟨rfl, Nq34, eq34⟩ := hQ34
  have N34 := Fr.app N32 Nq34
  show GolF _ _ _ _ _ _ _ T34 m 177 #[vr (A 0), vi 1, vi p2, vd 4607182418800017408, ss, vd (FP.l2d rd), ss, vd 4607182418800017408, ss, vi 2, vr (A 12), vd 4607182418800017408, ss, vi 2] [(.double (FP.l2d (prf p2 nd0 nd1 tk0 tk1))), (.int 1), (.ref (A 13))]
  refine Gol.dastore X34 hx hby hZ eq34 V_A13 d20_177 178 rfl ⟨by decide, by decide⟩ 1 rfl (Nat.le_of_ble_eq_true rfl) ?_
  intro T35 h35 X35 e35 W35 A35
  have V_A13 : Arv Z h35 (A 13) k_A13 .double (2 : Int32) [zb, (.double (FP.l2d (prf p2 nd0 nd1 tk0 tk1)))] (.double 0) := A35
  have V_A14 := V_A14.other W35 (D 14 13 rfl)
  have V_A9 := V_A9.other W35 (D 9 13 rfl)
  have V_A12 := V_A12.other W35 (D 12 13 rfl)
  have V_A8 := V_A8.other W35 (D 8 13 rfl)
  have V_A7 := V_A7.other W35 (D 7 13 rfl)
  have K := K.wr W35 (Or.inl (List.mem_of_getElem? (i := 4) rfl))
  have N35 := Fr.snoc X35 N34 (G 13 rfl)
  refine Gol.iconst X35 hx hby d20_178 179 rfl (z := (0 : Int32)) rfl ?_
  refine Gol.istore X35 hx hby d20_179 181 rfl (l' := #[vr (A 0), vi 1, vi p2, vd 4607182418800017408, ss, vd (FP.l2d rd), ss, vd 4607182418800017408, ss, vi 0, vr (A 12), vd 4607182418800017408, ss, vi 2]) rfl ?_
  refine Gol.iload X35 hx hby d20_181 183 rfl rfl ?_
  refine Gol.fB X35 hx hby hZ hown (w 36 _ rfl) e35 (B_A0.keep K nn_A0) 6 d20_183 d20_184 187 rfl rfl rfl rfl ?_
  intro T36 X36 e36
  refine Gol.icmpNo X36 hx hby d20_187 190 rfl (tlt (by decide : (0 : Int32) < (2 : Int32))).2.1 ?_
  refine Gol.fB X36 hx hby hZ hown (w 77 _ rfl) e36 (B_A0.keep K nn_A0) 19 d20_190 d20_191 194 rfl rfl rfl rfl ?_
  intro T37 X37 e37
  refine Gol.iload X37 hx hby d20_194 196 rfl rfl ?_
  refine Gol.dup2 X37 hx hby d20_196 197 rfl rfl rfl ?_
  refine Gol.daload X37 hx hby hZ e37 V_A14 d20_197 198 rfl ⟨by decide, by decide⟩ (v := (FP.l2d Mo)) rfl ?_
  refine Gol.dload X37 hx hby d20_198 200 rfl rfl ?_
  refine Gol.fB X37 hx hby hZ hown (w 73 _ rfl) e37 (B_A0.keep K nn_A0) 17 d20_200 d20_201 204 rfl rfl rfl rfl ?_
  intro T38 X38 e38
  refine Gol.iload X38 hx hby d20_204 206 rfl rfl ?_
  refine Gol.aaload X38 hx hby hZ e38 (V_A10.keep K nn_A10) d20_206 207 rfl rfl ⟨by decide, by decide⟩ (v := (.ref (A 11))) rfl ?_
  refine Gol.iloadN X38 hx hby d20_207 208 rfl rfl ?_
  refine Gol.daload X38 hx hby hZ e38 (V_A11.keep K nn_A11) d20_208 209 rfl ⟨by decide, by decide⟩ (v := (0 : UInt64)) rfl ?_
  refine Gol.dmul X38 hx hby d20_209 210 rfl (v := (0 : UInt64)) (own_nn (by decide)) (own_mul0 hrb hrp) ?_
  refine Gol.dadd X38 hx hby d20_210 211 rfl (v := (FP.l2d Mo)) own_fin (own_add0 hMb) ?_
  refine Gol.dastore X38 hx hby hZ e38 V_A14 d20_211 212 rfl ⟨by decide, by decide⟩ 0 rfl (Nat.le_of_ble_eq_true rfl) ?_
  intro T39 h39 X39 e39 W39 A39
  have V_A14 : Arv Z h39 (A 14) k_A14 .double (2 : Int32) [(.double (FP.l2d Mo)), (.double 0)] (.double 0) := A39
  have V_A9 := V_A9.other W39 (D 9 14 rfl)
  have V_A12 := V_A12.other W39 (D 12 14 rfl)
  have V_A8 := V_A8.other W39 (D 8 14 rfl)
  have V_A7 := V_A7.other W39 (D 7 14 rfl)
  have V_A13 := V_A13.other W39 (D 13 14 rfl)
  have K := K.wr W39 (Or.inl (List.mem_of_getElem? (i := 5) rfl))
  have N39 := Fr.snoc X39 N35 (G 14 rfl)
  refine Gol.iinc X39 hx hby d20_212 215 rfl rfl (l' := #[vr (A 0), vi 1, vi p2, vd 4607182418800017408, ss, vd (FP.l2d rd), ss, vd 4607182418800017408, ss, vi 1, vr (A 12), vd 4607182418800017408, ss, vi 2]) rfl ?_
  refine Gol.goto X39 hx hby d20_215 181 (by decide) ?_
  refine Gol.iload X39 hx hby d20_181 183 rfl rfl ?_
  refine Gol.fB X39 hx hby hZ hown (w 36 _ rfl) e39 (B_A0.keep K nn_A0) 6 d20_183 d20_184 187 rfl rfl rfl rfl ?_
  intro T40 X40 e40
  refine Gol.icmpNo X40 hx hby d20_187 190 rfl (tlt (by decide : (1 : Int32) < (2 : Int32))).2.1 ?_
  refine Gol.fB X40 hx hby hZ hown (w 77 _ rfl) e40 (B_A0.keep K nn_A0) 19 d20_190 d20_191 194 rfl rfl rfl rfl ?_
  intro T41 X41 e41
  refine Gol.iload X41 hx hby d20_194 196 rfl rfl ?_
  refine Gol.dup2 X41 hx hby d20_196 197 rfl rfl rfl ?_
  refine Gol.daload X41 hx hby hZ e41 V_A14 d20_197 198 rfl ⟨by decide, by decide⟩ (v := (0 : UInt64)) rfl ?_
  refine Gol.dload X41 hx hby d20_198 200 rfl rfl ?_
  refine Gol.fB X41 hx hby hZ hown (w 73 _ rfl) e41 (B_A0.keep K nn_A0) 17 d20_200 d20_201 204 rfl rfl rfl rfl ?_
  intro T42 X42 e42
  refine Gol.iload X42 hx hby d20_204 206 rfl rfl ?_
  refine Gol.aaload X42 hx hby hZ e42 (V_A10.keep K nn_A10) d20_206 207 rfl rfl ⟨by decide, by decide⟩ (v := (.ref (A 12))) rfl ?_
  refine Gol.iloadN X42 hx hby d20_207 208 rfl rfl ?_
  refine Gol.daload X42 hx hby hZ e42 V_A12 d20_208 209 rfl ⟨by decide, by decide⟩ (v := (4607182418800017408 : UInt64)) rfl ?_
  refine Gol.dmul X42 hx hby d20_209 210 rfl (v := (FP.l2d rd)) own_fin (own_mul1 hrb hrp) ?_
  refine Gol.dadd X42 hx hby d20_210 211 rfl (v := (FP.l2d rd)) own_fin (own_0add hrb) ?_
  refine Gol.dastore X42 hx hby hZ e42 V_A14 d20_211 212 rfl ⟨by decide, by decide⟩ 1 rfl (Nat.le_of_ble_eq_true rfl) ?_
  intro T43 h43 X43 e43 W43 A43
  have V_A14 : Arv Z h43 (A 14) k_A14 .double (2 : Int32) [(.double (FP.l2d Mo)), (.double (FP.l2d rd))] (.double 0) := A43
  have V_A9 := V_A9.other W43 (D 9 14 rfl)
  have V_A12 := V_A12.other W43 (D 12 14 rfl)
  have V_A8 := V_A8.other W43 (D 8 14 rfl)
  have V_A7 := V_A7.other W43 (D 7 14 rfl)
  have V_A13 := V_A13.other W43 (D 13 14 rfl)
  have K := K.wr W43 (Or.inl (List.mem_of_getElem? (i := 5) rfl))
  have N43 := Fr.snoc X43 N39 (G 14 rfl)
  refine Gol.iinc X43 hx hby d20_212 215 rfl rfl (l' := #[vr (A 0), vi 1, vi p2, vd 4607182418800017408, ss, vd (FP.l2d rd), ss, vd 4607182418800017408, ss, vi 2, vr (A 12), vd 4607182418800017408, ss, vi 2]) rfl ?_
  refine Gol.goto X43 hx hby d20_215 181 (by decide) ?_
  refine Gol.iload X43 hx hby d20_181 183 rfl rfl ?_
  refine Gol.fB X43 hx hby hZ hown (w 36 _ rfl) e43 (B_A0.keep K nn_A0) 6 d20_183 d20_184 187 rfl rfl rfl rfl ?_
  intro T44 X44 e44
  refine Gol.icmpYes X44 hx hby d20_187 218 (by decide) (flt (by decide : ¬ ((2 : Int32) < (2 : Int32)))).2.1 ?_
  exact Gol.ret0 X44 hx hby Bd.returns Bd.notSynchronized d20_218 e44 ⟨rfl, N43, K, ⟨_, V_A7⟩, ⟨_, V_A8⟩, ⟨_, V_A9⟩, ⟨_, V_A12⟩, ⟨_, V_A13⟩, ⟨_, V_A14⟩⟩ (by decide) (by decide)
abbrev dc21 (i : Nat) (x : Instr) (n : Nat) : Prop := decode prog_8_method_22_code i = .ok (x, n)
theorem d21_0 : dc21 0 (.aload_n 0) 1 := by decide +kernel
theorem d21_1 : dc21 1 (.getfield 93) 3 := by decide +kernel
theorem d21_4 : dc21 4 (.dconst 0) 1 := by decide +kernel
theorem d21_5 : dc21 5 (.invokestatic 192) 3 := by decide +kernel
theorem d21_8 : dc21 8 (.dconst 0) 1 := by decide +kernel
theorem d21_9 : dc21 9 (.dstore_n 1) 1 := by decide +kernel
theorem d21_10 : dc21 10 (.iconst 0) 1 := by decide +kernel
theorem d21_11 : dc21 11 (.istore_n 3) 1 := by decide +kernel
theorem d21_12 : dc21 12 (.iload_n 3) 1 := by decide +kernel
theorem d21_13 : dc21 13 (.aload_n 0) 1 := by decide +kernel
theorem d21_14 : dc21 14 (.getfield 39) 3 := by decide +kernel
theorem d21_17 : dc21 17 (.if_icmp .ge 126) 3 := by decide +kernel
theorem d21_20 : dc21 20 (.aload_n 0) 1 := by decide +kernel
theorem d21_21 : dc21 21 (.getfield 75) 3 := by decide +kernel
theorem d21_24 : dc21 24 (.iload_n 3) 1 := by decide +kernel
theorem d21_25 : dc21 25 .iaload 1 := by decide +kernel
theorem d21_26 : dc21 26 (.istore 4) 2 := by decide +kernel
theorem d21_28 : dc21 28 (.aload_n 0) 1 := by decide +kernel
theorem d21_29 : dc21 29 (.getfield 78) 3 := by decide +kernel
theorem d21_32 : dc21 32 (.iload_n 3) 1 := by decide +kernel
theorem d21_33 : dc21 33 .daload 1 := by decide +kernel
theorem d21_34 : dc21 34 (.dstore 5) 2 := by decide +kernel
theorem d21_36 : dc21 36 (.iload 4) 2 := by decide +kernel
theorem d21_38 : dc21 38 (.aload_n 0) 1 := by decide +kernel
theorem d21_39 : dc21 39 (.getfield 54) 3 := by decide +kernel
theorem d21_42 : dc21 42 (.if_icmp .ge 95) 3 := by decide +kernel
theorem d21_45 : dc21 45 (.dload 5) 2 := by decide +kernel
theorem d21_47 : dc21 47 (.dconst 0) 1 := by decide +kernel
theorem d21_48 : dc21 48 (.dcmp .l) 1 := by decide +kernel
theorem d21_49 : dc21 49 (.ifCond .le 88) 3 := by decide +kernel
theorem d21_52 : dc21 52 (.aload_n 0) 1 := by decide +kernel
theorem d21_53 : dc21 53 (.getfield 45) 3 := by decide +kernel
theorem d21_56 : dc21 56 (.iload 4) 2 := by decide +kernel
theorem d21_58 : dc21 58 .iaload 1 := by decide +kernel
theorem d21_59 : dc21 59 (.aload_n 0) 1 := by decide +kernel
theorem d21_60 : dc21 60 (.getfield 48) 3 := by decide +kernel
theorem d21_63 : dc21 63 (.iload 4) 2 := by decide +kernel
theorem d21_65 : dc21 65 .iaload 1 := by decide +kernel
theorem d21_66 : dc21 66 (.if_icmp .le 71) 3 := by decide +kernel
theorem d21_69 : dc21 69 (.dload_n 1) 1 := by decide +kernel
theorem d21_70 : dc21 70 (.aload_n 0) 1 := by decide +kernel
theorem d21_71 : dc21 71 (.getfield 45) 3 := by decide +kernel
theorem d21_74 : dc21 74 (.iload 4) 2 := by decide +kernel
theorem d21_76 : dc21 76 .iaload 1 := by decide +kernel
theorem d21_77 : dc21 77 (.aload_n 0) 1 := by decide +kernel
theorem d21_78 : dc21 78 (.getfield 48) 3 := by decide +kernel
theorem d21_81 : dc21 81 (.iload 4) 2 := by decide +kernel
theorem d21_83 : dc21 83 .iaload 1 := by decide +kernel
theorem d21_84 : dc21 84 .isub 1 := by decide +kernel
theorem d21_85 : dc21 85 .i2d 1 := by decide +kernel
theorem d21_86 : dc21 86 (.dload 5) 2 := by decide +kernel
theorem d21_88 : dc21 88 .dmul 1 := by decide +kernel
theorem d21_89 : dc21 89 .dadd 1 := by decide +kernel
theorem d21_90 : dc21 90 (.dstore_n 1) 1 := by decide +kernel
theorem d21_91 : dc21 91 (.aload_n 0) 1 := by decide +kernel
theorem d21_92 : dc21 92 (.getfield 57) 3 := by decide +kernel
theorem d21_95 : dc21 95 (.iload 4) 2 := by decide +kernel
theorem d21_97 : dc21 97 .iaload 1 := by decide +kernel
theorem d21_98 : dc21 98 (.istore 7) 2 := by decide +kernel
theorem d21_100 : dc21 100 (.iload 7) 2 := by decide +kernel
theorem d21_102 : dc21 102 (.aload_n 0) 1 := by decide +kernel
theorem d21_103 : dc21 103 (.getfield 57) 3 := by decide +kernel
theorem d21_106 : dc21 106 (.iload 4) 2 := by decide +kernel
theorem d21_108 : dc21 108 (.iconst 1) 1 := by decide +kernel
theorem d21_109 : dc21 109 .iadd 1 := by decide +kernel
theorem d21_110 : dc21 110 .iaload 1 := by decide +kernel
theorem d21_111 : dc21 111 (.if_icmp .ge 26) 3 := by decide +kernel
theorem d21_114 : dc21 114 (.aload_n 0) 1 := by decide +kernel
theorem d21_115 : dc21 115 (.getfield 93) 3 := by decide +kernel
theorem d21_118 : dc21 118 (.aload_n 0) 1 := by decide +kernel
theorem d21_119 : dc21 119 (.getfield 66) 3 := by decide +kernel
theorem d21_122 : dc21 122 (.iload 7) 2 := by decide +kernel
theorem d21_124 : dc21 124 .iaload 1 := by decide +kernel
theorem d21_125 : dc21 125 .dup2 1 := by decide +kernel
theorem d21_126 : dc21 126 .daload 1 := by decide +kernel
theorem d21_127 : dc21 127 (.dload 5) 2 := by decide +kernel
theorem d21_129 : dc21 129 .dadd 1 := by decide +kernel
theorem d21_130 : dc21 130 .dastore 1 := by decide +kernel
theorem d21_131 : dc21 131 (.iinc 7 1) 3 := by decide +kernel
theorem d21_134 : dc21 134 (.goto (-34)) 3 := by decide +kernel
theorem d21_137 : dc21 137 (.iinc 3 1) 3 := by decide +kernel
theorem d21_140 : dc21 140 (.goto (-128)) 3 := by decide +kernel
theorem d21_143 : dc21 143 (.aload_n 0) 1 := by decide +kernel
theorem d21_144 : dc21 144 (.getfield 99) 3 := by decide +kernel
theorem d21_147 : dc21 147 (.lstore_n 3) 1 := by decide +kernel
theorem d21_148 : dc21 148 (.lload_n 3) 1 := by decide +kernel
theorem d21_149 : dc21 149 (.lconst 0) 1 := by decide +kernel
theorem d21_150 : dc21 150 .lcmp 1 := by decide +kernel
theorem d21_151 : dc21 151 (.ifCond .eq 51) 3 := by decide +kernel
theorem d21_154 : dc21 154 (.lload_n 3) 1 := by decide +kernel
theorem d21_155 : dc21 155 (.invokestatic 69) 3 := by decide +kernel
theorem d21_158 : dc21 158 (.istore 5) 2 := by decide +kernel
theorem d21_160 : dc21 160 (.aload_n 0) 1 := by decide +kernel
theorem d21_161 : dc21 161 (.getfield 93) 3 := by decide +kernel
theorem d21_164 : dc21 164 (.iload 5) 2 := by decide +kernel
theorem d21_166 : dc21 166 .daload 1 := by decide +kernel
theorem d21_167 : dc21 167 (.dconst 1) 1 := by decide +kernel
theorem d21_168 : dc21 168 (.dcmp .l) 1 := by decide +kernel
theorem d21_169 : dc21 169 (.ifCond .le 24) 3 := by decide +kernel
theorem d21_193 : dc21 193 (.lload_n 3) 1 := by decide +kernel
theorem d21_194 : dc21 194 (.lload_n 3) 1 := by decide +kernel
theorem d21_195 : dc21 195 (.lconst 1) 1 := by decide +kernel
theorem d21_196 : dc21 196 .lsub 1 := by decide +kernel
theorem d21_197 : dc21 197 .land 1 := by decide +kernel
theorem d21_198 : dc21 198 (.lstore_n 3) 1 := by decide +kernel
theorem d21_199 : dc21 199 (.goto (-51)) 3 := by decide +kernel
theorem d21_202 : dc21 202 (.dload_n 1) 1 := by decide +kernel
theorem d21_203 : dc21 203 .dreturn 1 := by decide +kernel
theorem pn_21 : plainName "com/example/quorumstone/quorumstone/check/Relaxation" = true := by first | (simp [plainName, overriddenIn]; done) | decide +kernel
theorem ef_Bou (m : MethodId)  (A : Nat → Addr) : entryFrame m #[(.ref (A 0))] 8 = mkF m 0 #[vr (A 0), uu, uu, uu, uu, uu, uu, uu] [] := by first | (simp [entryFrame, mkF, argsToLocals, Value.category]; done) | rfl
abbrev QBou (Z : State) (A : Nat → Addr) (pp cc nx wk ps op ga gb : Int32) (za zb : Value) (nd0 nd1 tk0 tk1 dc0 dc1 : Int32) (h0 : Heap) (n0 : Nat) (v : Option Value) (h : Heap) (L : List Loc) : Prop := (∃ z : UInt64, v = some (.double z)) ∧ Fr n0 L ∧ Keep h0 h [(A 16)]
set_option maxRecDepth 65536 in
set_option maxHeartbeats 40000000 in
theorem rmBou (l : Launch) (Z : State) (a0 : Array Value) (hw : TW a0 Z) (ws : List Jvm.Cond) (A : Nat → Addr) (pp cc nx wk ps op ga gb : Int32) (za zb : Value) (nd0 nd1 tk0 tk1 dc0 dc1 : Int32) (h0 : Heap) (n0 : Nat) (Zs : n0 ≤ h0.size) (D : DisA A) (G : FreA A n0) (B_A0 : FL Z h0 (A 0) (rxv A pp cc nx wk ps (3 : Int64) op)) (E_A0 : Exa Z h0 (A 0) "com/example/quorumstone/quorumstone/check/Relaxation") (P8 : Vv Z h0 (A 8) .int (2 : Int32) [(.int ga), (.int gb)] (.int 0)) (P9 : Vv Z h0 (A 9) .double (2 : Int32) [(.double 4607182418800017408), (.double 4607182418800017408)] (.double 0)) (P16 : Vv Z h0 (A 16) .double (2 : Int32) [za, zb] (.double 0)) (P2 : Vv Z h0 (A 2) .int (2 : Int32) [(.int nd0), (.int nd1)] (.int 0)) (P3 : Vv Z h0 (A 3) .int (2 : Int32) [(.int tk0), (.int tk1)] (.int 0)) (P5 : Vv Z h0 (A 5) .int (3 : Int32) [(.int 0), (.int 1), (.int 2)] (.int 0)) (P6 : Vv Z h0 (A 6) .int (2 : Int32) [(.int dc0), (.int dc1)] (.int 0)) (hrga : ga = 4 ∨ (B01 ga ∧ sel ga dc0 dc1 = 0 ∧ (0 < (prf ga nd0 nd1 tk0 tk1).toInt ∧ sel ga tk0 tk1 < sel ga nd0 nd1))) (hrgb : gb = 5 ∨ (B01 gb ∧ sel gb dc0 dc1 = 1 ∧ (0 < (prf gb nd0 nd1 tk0 tk1).toInt ∧ sel gb tk0 tk1 < sel gb nd0 nd1))) :
    Mt l (⟨"com/example/quorumstone/quorumstone/check/Relaxation", "bound", "()D"⟩ : MethodName) prog_8_method_22_code 8 (some .double) ws (rmm 2 0 0 27) #[(.ref (A 0))] Z h0 (QBou Z A pp cc nx wk ps op ga gb za zb nd0 nd1 tk0 tk1 dc0 dc1 h0 n0) 0 0 := by
  refine own_body n0 (plainFor_of_name pn_21) hw (fun m => ef_Bou m  A) ?_
  intro p ev s m below meth c s₁ Bd hZ hx hby hml hown X0 eh0 N0 w
  obtain ⟨k_A8, V_A8⟩ := P8
  obtain ⟨k_A9, V_A9⟩ := P9
  obtain ⟨k_A16, V_A16⟩ := P16
  obtain ⟨k_A2, V_A2⟩ := P2
  obtain ⟨k_A3, V_A3⟩ := P3
  obtain ⟨k_A5, V_A5⟩ := P5
  obtain ⟨k_A6, V_A6⟩ := P6
  have nn_A8 : (A 8) ∉ [(A 16)] := (nnA D 8 [16] rfl)
  have nn_A9 : (A 9) ∉ [(A 16)] := (nnA D 9 [16] rfl)
  have nn_A2 : (A 2) ∉ [(A 16)] := (nnA D 2 [16] rfl)
  have nn_A3 : (A 3) ∉ [(A 16)] := (nnA D 3 [16] rfl)
  have nn_A5 : (A 5) ∉ [(A 16)] := (nnA D 5 [16] rfl)
  have nn_A6 : (A 6) ∉ [(A 16)] := (nnA D 6 [16] rfl)
  have nn_A0 : (A 0) ∉ [(A 16)] := (nnA D 0 [16] rfl)
  have K := Keep.refl h0 [(A 16)]
  show GolF _ _ _ _ _ _ _ s₁ m 0 #[vr (A 0), uu, uu, uu, uu, uu, uu, uu] []
  refine Gol.fB X0 hx hby hZ hown (w 81 _ rfl) eh0 B_A0 21 d21_0 d21_1 4 rfl rfl rfl rfl ?_
  intro T1 X1 e1
  refine Gol.dconst0 X1 hx hby d21_4 5 rfl (v := (0 : UInt64)) (by decide +kernel) ?_
  refine Gol.callS X1 hx hby hZ hown 0 [(.ref (A 16)), (.double 0)] (w 91 _ rfl) (w 92 _ rfl) (w 89 _ rfl) (w 93 _ rfl) (by decide) (rmFillD l Z a0 hw [] (A 16) (0 : UInt64) za zb h0 n0 Zs ⟨_, V_A16⟩ (G 16 rfl)) (by decide) (by decide) e1 (by rw [hml]; rfl) (rest := []) (Nat.le_of_eq rfl) (by decide) (by decide) (lenOf pd_2 rfl) rfl d21_5 8 rfl ?_
  intro T2 v2 L2 X2 hQ2
  obtain ⟨rfl, Nq2, Kq2, kf2, V_A16⟩ := hQ2
  have N2 := Fr.app N0 Nq2
  have K := K.trans Kq2 (allS (Or.inl (List.mem_of_getElem? (i := 0) rfl)) all0)
  have Zs := Nat.le_trans Zs Kq2.1
  show GolF _ _ _ _ _ _ _ T2 m 8 #[vr (A 0), uu, uu, uu, uu, uu, uu, uu] []
  refine Gol.dconst0 X2 hx hby d21_8 9 rfl (v := (0 : UInt64)) (by decide +kernel) ?_
  refine Gol.dstoreN X2 hx hby d21_9 10 rfl (l' := #[vr (A 0), vd 0, ss, uu, uu, uu, uu, uu]) rfl ?_
  refine Gol.iconst X2 hx hby d21_10 11 rfl (z := (0 : Int32)) rfl ?_
  refine Gol.istoreN X2 hx hby d21_11 12 rfl (l' := #[vr (A 0), vd 0, ss, vi 0, uu, uu, uu, uu]) rfl ?_
  refine Gol.mrg X2 (fun lo h' (x : UInt64 × Int32 × Slot × UInt64 × UInt64) => Fr n0 lo ∧ Keep T2.heap h' [(A 16)] ∧ (Vv Z h' (A 16) .double (2 : Int32) [(.double x.2.2.2.1), (.double x.2.2.2.2)] (.double 0)) ∧ (x.2.2.2.1 = 0 ∨ x.2.2.2.1 = 4607182418800017408) ∧ (x.2.2.2.2 = 0 ∨ x.2.2.2.2 = 4607182418800017408)) (fun T' (x : UInt64 × Int32 × Slot × UInt64 × UInt64) => T'.setTop (mkF m 143 #[vr (A 0), vd x.1, ss, vi 2, vi x.2.1, vd 4607182418800017408, ss, x.2.2.1] [])) ?_ ?_
  · intro k
    show GolF _ _ _ _ _ _ _ T2 m 12 #[vr (A 0), vd 0, ss, vi 0, uu, uu, uu, uu] []
    refine Gol.iloadN X2 hx hby d21_12 13 rfl rfl ?_
    refine Gol.fB X2 hx hby hZ hown (w 36 _ rfl) rfl (B_A0.keep K nn_A0) 6 d21_13 d21_14 17 rfl rfl rfl rfl ?_
    intro T4 X4 e4
    refine Gol.icmpNo X4 hx hby d21_17 20 rfl (tlt (by decide : (0 : Int32) < (2 : Int32))).2.1 ?_
    refine Gol.fB X4 hx hby hZ hown (w 69 _ rfl) e4 (B_A0.keep K nn_A0) 15 d21_20 d21_21 24 rfl rfl rfl rfl ?_
    intro T5 X5 e5
    refine Gol.iloadN X5 hx hby d21_24 25 rfl rfl ?_
    refine Gol.iaload X5 hx hby hZ e5 (V_A8.keep K nn_A8) d21_25 26 rfl ⟨by decide, by decide⟩ (v := ga) rfl ?_
    refine Gol.istore X5 hx hby d21_26 28 rfl (l' := #[vr (A 0), vd 0, ss, vi 0, vi ga, uu, uu, uu]) rfl ?_
    refine Gol.fB X5 hx hby hZ hown (w 71 _ rfl) e5 (B_A0.keep K nn_A0) 16 d21_28 d21_29 32 rfl rfl rfl rfl ?_
    intro T6 X6 e6
    refine Gol.iloadN X6 hx hby d21_32 33 rfl rfl ?_
    refine Gol.daload X6 hx hby hZ e6 (V_A9.keep K nn_A9) d21_33 34 rfl ⟨by decide, by decide⟩ (v := (4607182418800017408 : UInt64)) rfl ?_
    refine Gol.dstore X6 hx hby d21_34 36 rfl (l' := #[vr (A 0), vd 0, ss, vi 0, vi ga, vd 4607182418800017408, ss, uu]) rfl ?_
    refine Gol.iload X6 hx hby d21_36 38 rfl rfl ?_
    refine Gol.fB X6 hx hby hZ hown (w 46 _ rfl) e6 (B_A0.keep K nn_A0) 11 d21_38 d21_39 42 rfl rfl rfl rfl ?_
    intro T7 X7 e7
    rcases hrga with rfl | ⟨hga, hcga, hpga, hqga⟩
    · skip
      show GolF _ _ _ _ _ _ _ T7 m 42 #[vr (A 0), vd 0, ss, vi 0, vi 4, vd 4607182418800017408, ss, uu] [(.int 2), (.int 4)]
      refine Gol.icmpYes X7 hx hby d21_42 137 (by decide) (flt (by decide : ¬ ((4 : Int32) < (2 : Int32)))).2.1 ?_
      refine Gol.iinc X7 hx hby d21_137 140 rfl rfl (l' := #[vr (A 0), vd 0, ss, vi 1, vi 4, vd 4607182418800017408, ss, uu]) rfl ?_
      refine Gol.goto X7 hx hby d21_140 12 (by decide) ?_
      refine Gol.iloadN X7 hx hby d21_12 13 rfl rfl ?_
      refine Gol.fB X7 hx hby hZ hown (w 36 _ rfl) e7 (B_A0.keep K nn_A0) 6 d21_13 d21_14 17 rfl rfl rfl rfl ?_
      intro T8 X8 e8
      refine Gol.icmpNo X8 hx hby d21_17 20 rfl (tlt (by decide : (1 : Int32) < (2 : Int32))).2.1 ?_
      refine Gol.fB X8 hx hby hZ hown (w 69 _ rfl) e8 (B_A0.keep K nn_A0) 15 d21_20 d21_21 24 rfl rfl rfl rfl ?_
      intro T9 X9 e9
      refine Gol.iloadN X9 hx hby d21_24 25 rfl rfl ?_
      refine Gol.iaload X9 hx hby hZ e9 (V_A8.keep K nn_A8) d21_25 26 rfl ⟨by decide, by decide⟩ (v := gb) rfl ?_
      refine Gol.istore X9 hx hby d21_26 28 rfl (l' := #[vr (A 0), vd 0, ss, vi 1, vi gb, vd 4607182418800017408, ss, uu]) rfl ?_
      refine Gol.fB X9 hx hby hZ hown (w 71 _ rfl) e9 (B_A0.keep K nn_A0) 16 d21_28 d21_29 32 rfl rfl rfl rfl ?_
      intro T10 X10 e10
      refine Gol.iloadN X10 hx hby d21_32 33 rfl rfl ?_
      refine Gol.daload X10 hx hby hZ e10 (V_A9.keep K nn_A9) d21_33 34 rfl ⟨by decide, by decide⟩ (v := (4607182418800017408 : UInt64)) rfl ?_
      refine Gol.dstore X10 hx hby d21_34 36 rfl (l' := #[vr (A 0), vd 0, ss, vi 1, vi gb, vd 4607182418800017408, ss, uu]) rfl ?_
      refine Gol.iload X10 hx hby d21_36 38 rfl rfl ?_
      refine Gol.fB X10 hx hby hZ hown (w 46 _ rfl) e10 (B_A0.keep K nn_A0) 11 d21_38 d21_39 42 rfl rfl rfl rfl ?_
      intro T11 X11 e11
      rcases hrgb with rfl | ⟨hgb, hcgb, hpgb, hqgb⟩
      · skip
        show GolF _ _ _ _ _ _ _ T11 m 42 #[vr (A 0), vd 0, ss, vi 1, vi 5, vd 4607182418800017408, ss, uu] [(.int 2), (.int 5)]
        refine Gol.icmpYes X11 hx hby d21_42 137 (by decide) (flt (by decide : ¬ ((5 : Int32) < (2 : Int32)))).2.1 ?_
        refine Gol.iinc X11 hx hby d21_137 140 rfl rfl (l' := #[vr (A 0), vd 0, ss, vi 2, vi 5, vd 4607182418800017408, ss, uu]) rfl ?_
        refine Gol.goto X11 hx hby d21_140 12 (by decide) ?_
        refine Gol.iloadN X11 hx hby d21_12 13 rfl rfl ?_
        refine Gol.fB X11 hx hby hZ hown (w 36 _ rfl) e11 (B_A0.keep K nn_A0) 6 d21_13 d21_14 17 rfl rfl rfl rfl ?_
        intro T12 X12 e12
        refine Gol.icmpYes X12 hx hby d21_17 143 (by decide) (flt (by decide : ¬ ((2 : Int32) < (2 : Int32)))).2.1 ?_
        exact k _ _ _ ((0 : UInt64), (5 : Int32), uu, 0, 0) X12 e12 ⟨N2, (Keep.refl _ _), ⟨_, V_A16⟩, Or.inl rfl, Or.inl rfl⟩
      · skip
        show GolF _ _ _ _ _ _ _ T11 m 42 #[vr (A 0), vd 0, ss, vi 1, vi gb, vd 4607182418800017408, ss, uu] [(.int 2), (.int gb)]
        refine Gol.icmpNo X11 hx hby d21_42 45 rfl (tlt (own_lt2 hgb)).2.1 ?_
        refine Gol.dload X11 hx hby d21_45 47 rfl rfl ?_
        refine Gol.dconst0 X11 hx hby d21_47 48 rfl (v := (0 : UInt64)) (by decide +kernel) ?_
        refine Gol.dcmp X11 hx hby d21_48 49 rfl (v := (1 : Int32)) (by decide +kernel) ?_
        refine Gol.ifNo X11 hx hby d21_49 52 rfl ((if0 _ _).trans (tlt (by decide : (0 : Int32) < (1 : Int32))).2.2.2) ?_
        refine Gol.fB X11 hx hby hZ hown (w 40 _ rfl) e11 (B_A0.keep K nn_A0) 8 d21_52 d21_53 56 rfl rfl rfl rfl ?_
        intro T13 X13 e13
        refine Gol.iload X13 hx hby d21_56 58 rfl rfl ?_
        refine Gol.iaload X13 hx hby hZ e13 (V_A2.keep K nn_A2) d21_58 59 rfl (own_in2 hgb) (v := (sel gb nd0 nd1)) (own_rI hgb) ?_
        refine Gol.fB X13 hx hby hZ hown (w 42 _ rfl) e13 (B_A0.keep K nn_A0) 9 d21_59 d21_60 63 rfl rfl rfl rfl ?_
        intro T14 X14 e14
        refine Gol.iload X14 hx hby d21_63 65 rfl rfl ?_
        refine Gol.iaload X14 hx hby hZ e14 (V_A3.keep K nn_A3) d21_65 66 rfl (own_in2 hgb) (v := (sel gb tk0 tk1)) (own_rI hgb) ?_
        refine Gol.icmpNo X14 hx hby d21_66 69 rfl (tlt hqgb).2.2.2 ?_
        refine Gol.dloadN X14 hx hby d21_69 70 rfl rfl ?_
        refine Gol.fB X14 hx hby hZ hown (w 40 _ rfl) e14 (B_A0.keep K nn_A0) 8 d21_70 d21_71 74 rfl rfl rfl rfl ?_
        intro T15 X15 e15
        refine Gol.iload X15 hx hby d21_74 76 rfl rfl ?_
        refine Gol.iaload X15 hx hby hZ e15 (V_A2.keep K nn_A2) d21_76 77 rfl (own_in2 hgb) (v := (sel gb nd0 nd1)) (own_rI hgb) ?_
        refine Gol.fB X15 hx hby hZ hown (w 42 _ rfl) e15 (B_A0.keep K nn_A0) 9 d21_77 d21_78 81 rfl rfl rfl rfl ?_
        intro T16 X16 e16
        refine Gol.iload X16 hx hby d21_81 83 rfl rfl ?_
        refine Gol.iaload X16 hx hby hZ e16 (V_A3.keep K nn_A3) d21_83 84 rfl (own_in2 hgb) (v := (sel gb tk0 tk1)) (own_rI hgb) ?_
        refine Gol.isub X16 hx hby d21_84 85 rfl rfl ?_
        refine Gol.i2d X16 hx hby d21_85 86 rfl (v := (FP.l2d (prf gb nd0 nd1 tk0 tk1))) (own_i2p hpgb) ?_
        refine Gol.dload X16 hx hby d21_86 88 rfl rfl ?_
        refine Gol.dmul X16 hx hby d21_88 89 rfl (v := (FP.l2d (prf gb nd0 nd1 tk0 tk1))) own_fin (own_mul1 (own_b53 _) hpgb) ?_
        refine Gol.dadd X16 hx hby d21_89 90 rfl (v := (FP.l2d (prf gb nd0 nd1 tk0 tk1))) own_fin (own_0add (own_b53 _)) ?_
        refine Gol.dstoreN X16 hx hby d21_90 91 rfl (l' := #[vr (A 0), vd (FP.l2d (prf gb nd0 nd1 tk0 tk1)), ss, vi 1, vi gb, vd 4607182418800017408, ss, uu]) rfl ?_
        refine Gol.fB X16 hx hby hZ hown (w 48 _ rfl) e16 (B_A0.keep K nn_A0) 12 d21_91 d21_92 95 rfl rfl rfl rfl ?_
        intro T17 X17 e17
        refine Gol.iload X17 hx hby d21_95 97 rfl rfl ?_
        refine Gol.iaload X17 hx hby hZ e17 (V_A5.keep K nn_A5) d21_97 98 rfl (own_in3 hgb) (v := gb) (own_ds0 hgb) ?_
        refine Gol.istore X17 hx hby d21_98 100 rfl (l' := #[vr (A 0), vd (FP.l2d (prf gb nd0 nd1 tk0 tk1)), ss, vi 1, vi gb, vd 4607182418800017408, ss, vi gb]) rfl ?_
        refine Gol.iload X17 hx hby d21_100 102 rfl rfl ?_
        refine Gol.fB X17 hx hby hZ hown (w 48 _ rfl) e17 (B_A0.keep K nn_A0) 12 d21_102 d21_103 106 rfl rfl rfl rfl ?_
        intro T18 X18 e18
        refine Gol.iload X18 hx hby d21_106 108 rfl rfl ?_
        refine Gol.iconst X18 hx hby d21_108 109 rfl (z := (1 : Int32)) rfl ?_
        refine Gol.iadd X18 hx hby d21_109 110 rfl rfl ?_
        refine Gol.iaload X18 hx hby hZ e18 (V_A5.keep K nn_A5) d21_110 111 rfl (own_in31 hgb) (v := (gb + (1 : Int32))) (own_ds1 hgb) ?_
        refine Gol.icmpNo X18 hx hby d21_111 114 rfl (tlt (own_lts hgb)).2.1 ?_
        refine Gol.fB X18 hx hby hZ hown (w 81 _ rfl) e18 (B_A0.keep K nn_A0) 21 d21_114 d21_115 118 rfl rfl rfl rfl ?_
        intro T19 X19 e19
        refine Gol.fB X19 hx hby hZ hown (w 57 _ rfl) e19 (B_A0.keep K nn_A0) 13 d21_118 d21_119 122 rfl rfl rfl rfl ?_
        intro T20 X20 e20
        refine Gol.iload X20 hx hby d21_122 124 rfl rfl ?_
        refine Gol.iaload X20 hx hby hZ e20 (V_A6.keep K nn_A6) d21_124 125 rfl (own_in2 hgb) (v := (1 : Int32)) ((own_rI hgb).trans (congrArg Value.int hcgb)) ?_
        refine Gol.dup2 X20 hx hby d21_125 126 rfl rfl rfl ?_
        refine Gol.daload X20 hx hby hZ e20 V_A16 d21_126 127 rfl ⟨by decide, by decide⟩ (v := (0 : UInt64)) rfl ?_
        refine Gol.dload X20 hx hby d21_127 129 rfl rfl ?_
        refine Gol.dadd X20 hx hby d21_129 130 rfl (v := (4607182418800017408 : UInt64)) (own_nn (by decide)) (by decide +kernel) ?_
        refine Gol.dastore X20 hx hby hZ e20 V_A16 d21_130 131 rfl ⟨by decide, by decide⟩ 1 rfl (Nat.le_of_ble_eq_true rfl) ?_
        intro T21 h21 X21 e21 W21 A21
        have V_A16 : Arv Z h21 (A 16) kf2 .double (2 : Int32) [(.double 0), (.double 4607182418800017408)] (.double 0) := A21
        have K := K.wr W21 (Or.inl (List.mem_of_getElem? (i := 0) rfl))
        have N21 := Fr.snoc X21 N2 (G 16 rfl)
        refine Gol.iinc X21 hx hby d21_131 134 rfl rfl (l' := #[vr (A 0), vd (FP.l2d (prf gb nd0 nd1 tk0 tk1)), ss, vi 1, vi gb, vd 4607182418800017408, ss, vi (gb + (1 : Int32))]) rfl ?_
        refine Gol.goto X21 hx hby d21_134 100 (by decide) ?_
        refine Gol.iload X21 hx hby d21_100 102 rfl rfl ?_
        refine Gol.fB X21 hx hby hZ hown (w 48 _ rfl) e21 (B_A0.keep K nn_A0) 12 d21_102 d21_103 106 rfl rfl rfl rfl ?_
        intro T22 X22 e22
        refine Gol.iload X22 hx hby d21_106 108 rfl rfl ?_
        refine Gol.iconst X22 hx hby d21_108 109 rfl (z := (1 : Int32)) rfl ?_
        refine Gol.iadd X22 hx hby d21_109 110 rfl rfl ?_
        refine Gol.iaload X22 hx hby hZ e22 (V_A5.keep K nn_A5) d21_110 111 rfl (own_in31 hgb) (v := (gb + (1 : Int32))) (own_ds1 hgb) ?_
        refine Gol.icmpYes X22 hx hby d21_111 137 (by decide) (flt Int32.lt_irrefl).2.1 ?_
        refine Gol.iinc X22 hx hby d21_137 140 rfl rfl (l' := #[vr (A 0), vd (FP.l2d (prf gb nd0 nd1 tk0 tk1)), ss, vi 2, vi gb, vd 4607182418800017408, ss, vi (gb + (1 : Int32))]) rfl ?_
        refine Gol.goto X22 hx hby d21_140 12 (by decide) ?_
        refine Gol.iloadN X22 hx hby d21_12 13 rfl rfl ?_
        refine Gol.fB X22 hx hby hZ hown (w 36 _ rfl) e22 (B_A0.keep K nn_A0) 6 d21_13 d21_14 17 rfl rfl rfl rfl ?_
        intro T23 X23 e23
        refine Gol.icmpYes X23 hx hby d21_17 143 (by decide) (flt (by decide : ¬ ((2 : Int32) < (2 : Int32)))).2.1 ?_
        exact k _ _ _ ((FP.l2d (prf gb nd0 nd1 tk0 tk1)), gb, vi (gb + (1 : Int32)), 0, 4607182418800017408) X23 e23 ⟨N21, (Keep.of_wr W21), ⟨_, V_A16⟩, Or.inl rfl, Or.inr rfl⟩
    · skip
      show GolF _ _ _ _ _ _ _ T7 m 42 #[vr (A 0), vd 0, ss, vi 0, vi ga, vd 4607182418800017408, ss, uu] [(.int 2), (.int ga)]
      refine Gol.icmpNo X7 hx hby d21_42 45 rfl (tlt (own_lt2 hga)).2.1 ?_
      refine Gol.dload X7 hx hby d21_45 47 rfl rfl ?_
      refine Gol.dconst0 X7 hx hby d21_47 48 rfl (v := (0 : UInt64)) (by decide +kernel) ?_
      refine Gol.dcmp X7 hx hby d21_48 49 rfl (v := (1 : Int32)) (by decide +kernel) ?_
      refine Gol.ifNo X7 hx hby d21_49 52 rfl ((if0 _ _).trans (tlt (by decide : (0 : Int32) < (1 : Int32))).2.2.2) ?_
      refine Gol.fB X7 hx hby hZ hown (w 40 _ rfl) e7 (B_A0.keep K nn_A0) 8 d21_52 d21_53 56 rfl rfl rfl rfl ?_
      intro T24 X24 e24
      refine Gol.iload X24 hx hby d21_56 58 rfl rfl ?_
      refine Gol.iaload X24 hx hby hZ e24 (V_A2.keep K nn_A2) d21_58 59 rfl (own_in2 hga) (v := (sel ga nd0 nd1)) (own_rI hga) ?_
      refine Gol.fB X24 hx hby hZ hown (w 42 _ rfl) e24 (B_A0.keep K nn_A0) 9 d21_59 d21_60 63 rfl rfl rfl rfl ?_
      intro T25 X25 e25
      refine Gol.iload X25 hx hby d21_63 65 rfl rfl ?_
      refine Gol.iaload X25 hx hby hZ e25 (V_A3.keep K nn_A3) d21_65 66 rfl (own_in2 hga) (v := (sel ga tk0 tk1)) (own_rI hga) ?_
      refine Gol.icmpNo X25 hx hby d21_66 69 rfl (tlt hqga).2.2.2 ?_
      refine Gol.dloadN X25 hx hby d21_69 70 rfl rfl ?_
      refine Gol.fB X25 hx hby hZ hown (w 40 _ rfl) e25 (B_A0.keep K nn_A0) 8 d21_70 d21_71 74 rfl rfl rfl rfl ?_
      intro T26 X26 e26
      refine Gol.iload X26 hx hby d21_74 76 rfl rfl ?_
      refine Gol.iaload X26 hx hby hZ e26 (V_A2.keep K nn_A2) d21_76 77 rfl (own_in2 hga) (v := (sel ga nd0 nd1)) (own_rI hga) ?_
      refine Gol.fB X26 hx hby hZ hown (w 42 _ rfl) e26 (B_A0.keep K nn_A0) 9 d21_77 d21_78 81 rfl rfl rfl rfl ?_
      intro T27 X27 e27
      refine Gol.iload X27 hx hby d21_81 83 rfl rfl ?_
      refine Gol.iaload X27 hx hby hZ e27 (V_A3.keep K nn_A3) d21_83 84 rfl (own_in2 hga) (v := (sel ga tk0 tk1)) (own_rI hga) ?_
      refine Gol.isub X27 hx hby d21_84 85 rfl rfl ?_
      refine Gol.i2d X27 hx hby d21_85 86 rfl (v := (FP.l2d (prf ga nd0 nd1 tk0 tk1))) (own_i2p hpga) ?_
      refine Gol.dload X27 hx hby d21_86 88 rfl rfl ?_
      refine Gol.dmul X27 hx hby d21_88 89 rfl (v := (FP.l2d (prf ga nd0 nd1 tk0 tk1))) own_fin (own_mul1 (own_b53 _) hpga) ?_
      refine Gol.dadd X27 hx hby d21_89 90 rfl (v := (FP.l2d (prf ga nd0 nd1 tk0 tk1))) own_fin (own_0add (own_b53 _)) ?_
      refine Gol.dstoreN X27 hx hby d21_90 91 rfl (l' := #[vr (A 0), vd (FP.l2d (prf ga nd0 nd1 tk0 tk1)), ss, vi 0, vi ga, vd 4607182418800017408, ss, uu]) rfl ?_
      refine Gol.fB X27 hx hby hZ hown (w 48 _ rfl) e27 (B_A0.keep K nn_A0) 12 d21_91 d21_92 95 rfl rfl rfl rfl ?_
      intro T28 X28 e28
      refine Gol.iload X28 hx hby d21_95 97 rfl rfl ?_
      refine Gol.iaload X28 hx hby hZ e28 (V_A5.keep K nn_A5) d21_97 98 rfl (own_in3 hga) (v := ga) (own_ds0 hga) ?_
      refine Gol.istore X28 hx hby d21_98 100 rfl (l' := #[vr (A 0), vd (FP.l2d (prf ga nd0 nd1 tk0 tk1)), ss, vi 0, vi ga, vd 4607182418800017408, ss, vi ga]) rfl ?_
      refine Gol.iload X28 hx hby d21_100 102 rfl rfl ?_
      refine Gol.fB X28 hx hby hZ hown (w 48 _ rfl) e28 (B_A0.keep K nn_A0) 12 d21_102 d21_103 106 rfl rfl rfl rfl ?_
      intro T29 X29 e29
      refine Gol.iload X29 hx hby d21_106 108 rfl rfl ?_
      refine Gol.iconst X29 hx hby d21_108 109 rfl (z := (1 : Int32)) rfl ?_
      refine Gol.iadd X29 hx hby d21_109 110 rfl rfl ?_
      refine Gol.iaload X29 hx hby hZ e29 (V_A5.keep K nn_A5) d21_110 111 rfl (own_in31 hga) (v := (ga + (1 : Int32))) (own_ds1 hga) ?_
      refine Gol.icmpNo X29 hx hby d21_111 114 rfl (tlt (own_lts hga)).2.1 ?_
      refine Gol.fB X29 hx hby hZ hown (w 81 _ rfl) e29 (B_A0.keep K nn_A0) 21 d21_114 d21_115 118 rfl rfl rfl rfl ?_
      intro T30 X30 e30
      refine Gol.fB X30 hx hby hZ hown (w 57 _ rfl) e30 (B_A0.keep K nn_A0) 13 d21_118 d21_119 122 rfl rfl rfl rfl ?_
      intro T31 X31 e31
      refine Gol.iload X31 hx hby d21_122 124 rfl rfl ?_
      refine Gol.iaload X31 hx hby hZ e31 (V_A6.keep K nn_A6) d21_124 125 rfl (own_in2 hga) (v := (0 : Int32)) ((own_rI hga).trans (congrArg Value.int hcga)) ?_
      refine Gol.dup2 X31 hx hby d21_125 126 rfl rfl rfl ?_
      refine Gol.daload X31 hx hby hZ e31 V_A16 d21_126 127 rfl ⟨by decide, by decide⟩ (v := (0 : UInt64)) rfl ?_
      refine Gol.dload X31 hx hby d21_127 129 rfl rfl ?_
      refine Gol.dadd X31 hx hby d21_129 130 rfl (v := (4607182418800017408 : UInt64)) (own_nn (by decide)) (by decide +kernel) ?_
      refine Gol.dastore X31 hx hby hZ e31 V_A16 d21_130 131 rfl ⟨by decide, by decide⟩ 0 rfl (Nat.le_of_ble_eq_true rfl) ?_
      intro T32 h32 X32 e32 W32 A32
      have V_A16 : Arv Z h32 (A 16) kf2 .double (2 : Int32) [(.double 4607182418800017408), (.double 0)] (.double 0) := A32
      have K := K.wr W32 (Or.inl (List.mem_of_getElem? (i := 0) rfl))
      have N32 := Fr.snoc X32 N2 (G 16 rfl)
      refine Gol.iinc X32 hx hby d21_131 134 rfl rfl (l' := #[vr (A 0), vd (FP.l2d (prf ga nd0 nd1 tk0 tk1)), ss, vi 0, vi ga, vd 4607182418800017408, ss, vi (ga + (1 : Int32))]) rfl ?_
      refine Gol.goto X32 hx hby d21_134 100 (by decide) ?_
      refine Gol.iload X32 hx hby d21_100 102 rfl rfl ?_
      refine Gol.fB X32 hx hby hZ hown (w 48 _ rfl) e32 (B_A0.keep K nn_A0) 12 d21_102 d21_103 106 rfl rfl rfl rfl ?_
      intro T33 X33 e33
      refine Gol.iload X33 hx hby d21_106 108 rfl rfl ?_
      refine Gol.iconst X33 hx hby d21_108 109 rfl (z := (1 : Int32)) rfl ?_
      refine Gol.iadd X33 hx hby d21_109 110 rfl rfl ?_
      refine Gol.iaload X33 hx hby hZ e33 (V_A5.keep K nn_A5) d21_110 111 rfl (own_in31 hga) (v := (ga + (1 : Int32))) (own_ds1 hga) ?_
      refine Gol.icmpYes X33 hx hby d21_111 137 (by decide) (flt Int32.lt_irrefl).2.1 ?_
      refine Gol.iinc X33 hx hby d21_137 140 rfl rfl (l' := #[vr (A 0), vd (FP.l2d (prf ga nd0 nd1 tk0 tk1)), ss, vi 1, vi ga, vd 4607182418800017408, ss, vi (ga + (1 : Int32))]) rfl ?_
      refine Gol.goto X33 hx hby d21_140 12 (by decide) ?_
      refine Gol.iloadN X33 hx hby d21_12 13 rfl rfl ?_
      refine Gol.fB X33 hx hby hZ hown (w 36 _ rfl) e33 (B_A0.keep K nn_A0) 6 d21_13 d21_14 17 rfl rfl rfl rfl ?_
      intro T34 X34 e34
      refine Gol.icmpNo X34 hx hby d21_17 20 rfl (tlt (by decide : (1 : Int32) < (2 : Int32))).2.1 ?_
      refine Gol.fB X34 hx hby hZ hown (w 69 _ rfl) e34 (B_A0.keep K nn_A0) 15 d21_20 d21_21 24 rfl rfl rfl rfl ?_
      intro T35 X35 e35
      refine Gol.iloadN X35 hx hby d21_24 25 rfl rfl ?_
      refine Gol.iaload X35 hx hby hZ e35 (V_A8.keep K nn_A8) d21_25 26 rfl ⟨by decide, by decide⟩ (v := gb) rfl ?_
      refine Gol.istore X35 hx hby d21_26 28 rfl (l' := #[vr (A 0), vd (FP.l2d (prf ga nd0 nd1 tk0 tk1)), ss, vi 1, vi gb, vd 4607182418800017408, ss, vi (ga + (1 : Int32))]) rfl ?_
      refine Gol.fB X35 hx hby hZ hown (w 71 _ rfl) e35 (B_A0.keep K nn_A0) 16 d21_28 d21_29 32 rfl rfl rfl rfl ?_
      intro T36 X36 e36
      refine Gol.iloadN X36 hx hby d21_32 33 rfl rfl ?_
      refine Gol.daload X36 hx hby hZ e36 (V_A9.keep K nn_A9) d21_33 34 rfl ⟨by decide, by decide⟩ (v := (4607182418800017408 : UInt64)) rfl ?_
      refine Gol.dstore X36 hx hby d21_34 36 rfl (l' := #[vr (A 0), vd (FP.l2d (prf ga nd0 nd1 tk0 tk1)), ss, vi 1, vi gb, vd 4607182418800017408, ss, vi (ga + (1 : Int32))]) rfl ?_
      refine Gol.iload X36 hx hby d21_36 38 rfl rfl ?_
      refine Gol.fB X36 hx hby hZ hown (w 46 _ rfl) e36 (B_A0.keep K nn_A0) 11 d21_38 d21_39 42 rfl rfl rfl rfl ?_
      intro T37 X37 e37
      rcases hrgb with rfl | ⟨hgb, hcgb, hpgb, hqgb⟩
      · skip
        show GolF _ _ _ _ _ _ _ T37 m 42 #[vr (A 0), vd (FP.l2d (prf ga nd0 nd1 tk0 tk1)), ss, vi 1, vi 5, vd 4607182418800017408, ss, vi (ga + (1 : Int32))] [(.int 2), (.int 5)]
        refine Gol.icmpYes X37 hx hby d21_42 137 (by decide) (flt (by decide : ¬ ((5 : Int32) < (2 : Int32)))).2.1 ?_
        refine Gol.iinc X37 hx hby d21_137 140 rfl rfl (l' := #[vr (A 0), vd (FP.l2d (prf ga nd0 nd1 tk0 tk1)), ss, vi 2, vi 5, vd 4607182418800017408, ss, vi (ga + (1 : Int32))]) rfl ?_
        refine Gol.goto X37 hx hby d21_140 12 (by decide) ?_
        refine Gol.iloadN X37 hx hby d21_12 13 rfl rfl ?_
        refine Gol.fB X37 hx hby hZ hown (w 36 _ rfl) e37 (B_A0.keep K nn_A0) 6 d21_13 d21_14 17 rfl rfl rfl rfl ?_
        intro T38 X38 e38
        refine Gol.icmpYes X38 hx hby d21_17 143 (by decide) (flt (by decide : ¬ ((2 : Int32) < (2 : Int32)))).2.1 ?_
        exact k _ _ _ ((FP.l2d (prf ga nd0 nd1 tk0 tk1)), (5 : Int32), vi (ga + (1 : Int32)), 4607182418800017408, 0) X38 e38 ⟨N32, (Keep.of_wr W32), ⟨_, V_A16⟩, Or.inr rfl, Or.inl rfl⟩
      · skip
        show GolF _ _ _ _ _ _ _ T37 m 42 #[vr (A 0), vd (FP.l2d (prf ga nd0 nd1 tk0 tk1)), ss, vi 1, vi gb, vd 4607182418800017408, ss, vi (ga + (1 : Int32))] [(.int 2), (.int gb)]
        refine Gol.icmpNo X37 hx hby d21_42 45 rfl (tlt (own_lt2 hgb)).2.1 ?_
        refine Gol.dload X37 hx hby d21_45 47 rfl rfl ?_
        refine Gol.dconst0 X37 hx hby d21_47 48 rfl (v := (0 : UInt64)) (by decide +kernel) ?_
        refine Gol.dcmp X37 hx hby d21_48 49 rfl (v := (1 : Int32)) (by decide +kernel) ?_
        refine Gol.ifNo X37 hx hby d21_49 52 rfl ((if0 _ _).trans (tlt (by decide : (0 : Int32) < (1 : Int32))).2.2.2) ?_
        refine Gol.fB X37 hx hby hZ hown (w 40 _ rfl) e37 (B_A0.keep K nn_A0) 8 d21_52 d21_53 56 rfl rfl rfl rfl ?_
        intro T39 X39 e39
        refine Gol.iload X39 hx hby d21_56 58 rfl rfl ?_
        refine Gol.iaload X39 hx hby hZ e39 (V_A2.keep K nn_A2) d21_58 59 rfl (own_in2 hgb) (v := (sel gb nd0 nd1)) (own_rI hgb) ?_
        refine Gol.fB X39 hx hby hZ hown (w 42 _ rfl) e39 (B_A0.keep K nn_A0) 9 d21_59 d21_60 63 rfl rfl rfl rfl ?_
        intro T40 X40 e40
        refine Gol.iload X40 hx hby d21_63 65 rfl rfl ?_
        refine Gol.iaload X40 hx hby hZ e40 (V_A3.keep K nn_A3) d21_65 66 rfl (own_in2 hgb) (v := (sel gb tk0 tk1)) (own_rI hgb) ?_
        refine Gol.icmpNo X40 hx hby d21_66 69 rfl (tlt hqgb).2.2.2 ?_
        refine Gol.dloadN X40 hx hby d21_69 70 rfl rfl ?_
        refine Gol.fB X40 hx hby hZ hown (w 40 _ rfl) e40 (B_A0.keep K nn_A0) 8 d21_70 d21_71 74 rfl rfl rfl rfl ?_
        intro T41 X41 e41
        refine Gol.iload X41 hx hby d21_74 76 rfl rfl ?_
        refine Gol.iaload X41 hx hby hZ e41 (V_A2.keep K nn_A2) d21_76 77 rfl (own_in2 hgb) (v := (sel gb nd0 nd1)) (own_rI hgb) ?_
        refine Gol.fB X41 hx hby hZ hown (w 42 _ rfl) e41 (B_A0.keep K nn_A0) 9 d21_77 d21_78 81 rfl rfl rfl rfl ?_
        intro T42 X42 e42
        refine Gol.iload X42 hx hby d21_81 83 rfl rfl ?_
        refine Gol.iaload X42 hx hby hZ e42 (V_A3.keep K nn_A3) d21_83 84 rfl (own_in2 hgb) (v := (sel gb tk0 tk1)) (own_rI hgb) ?_
        refine Gol.isub X42 hx hby d21_84 85 rfl rfl ?_
        refine Gol.i2d X42 hx hby d21_85 86 rfl (v := (FP.l2d (prf gb nd0 nd1 tk0 tk1))) (own_i2p hpgb) ?_
        refine Gol.dload X42 hx hby d21_86 88 rfl rfl ?_
        refine Gol.dmul X42 hx hby d21_88 89 rfl (v := (FP.l2d (prf gb nd0 nd1 tk0 tk1))) own_fin (own_mul1 (own_b53 _) hpgb) ?_
        refine Gol.dadd X42 hx hby d21_89 90 rfl (v := (FP.l2d ((prf ga nd0 nd1 tk0 tk1) + (prf gb nd0 nd1 tk0 tk1)))) own_fin (dadd_w (own_b53 _) (own_b53 _)) ?_
        refine Gol.dstoreN X42 hx hby d21_90 91 rfl (l' := #[vr (A 0), vd (FP.l2d ((prf ga nd0 nd1 tk0 tk1) + (prf gb nd0 nd1 tk0 tk1))), ss, vi 1, vi gb, vd 4607182418800017408, ss, vi (ga + (1 : Int32))]) rfl ?_
        refine Gol.fB X42 hx hby hZ hown (w 48 _ rfl) e42 (B_A0.keep K nn_A0) 12 d21_91 d21_92 95 rfl rfl rfl rfl ?_
        intro T43 X43 e43
        refine Gol.iload X43 hx hby d21_95 97 rfl rfl ?_
        refine Gol.iaload X43 hx hby hZ e43 (V_A5.keep K nn_A5) d21_97 98 rfl (own_in3 hgb) (v := gb) (own_ds0 hgb) ?_
        refine Gol.istore X43 hx hby d21_98 100 rfl (l' := #[vr (A 0), vd (FP.l2d ((prf ga nd0 nd1 tk0 tk1) + (prf gb nd0 nd1 tk0 tk1))), ss, vi 1, vi gb, vd 4607182418800017408, ss, vi gb]) rfl ?_
        refine Gol.iload X43 hx hby d21_100 102 rfl rfl ?_
        refine Gol.fB X43 hx hby hZ hown (w 48 _ rfl) e43 (B_A0.keep K nn_A0) 12 d21_102 d21_103 106 rfl rfl rfl rfl ?_
        intro T44 X44 e44
        refine Gol.iload X44 hx hby d21_106 108 rfl rfl ?_
        refine Gol.iconst X44 hx hby d21_108 109 rfl (z := (1 : Int32)) rfl ?_
        refine Gol.iadd X44 hx hby d21_109 110 rfl rfl ?_
        refine Gol.iaload X44 hx hby hZ e44 (V_A5.keep K nn_A5) d21_110 111 rfl (own_in31 hgb) (v := (gb + (1 : Int32))) (own_ds1 hgb) ?_
        refine Gol.icmpNo X44 hx hby d21_111 114 rfl (tlt (own_lts hgb)).2.1 ?_
        refine Gol.fB X44 hx hby hZ hown (w 81 _ rfl) e44 (B_A0.keep K nn_A0) 21 d21_114 d21_115 118 rfl rfl rfl rfl ?_
        intro T45 X45 e45
        refine Gol.fB X45 hx hby hZ hown (w 57 _ rfl) e45 (B_A0.keep K nn_A0) 13 d21_118 d21_119 122 rfl rfl rfl rfl ?_
        intro T46 X46 e46
        refine Gol.iload X46 hx hby d21_122 124 rfl rfl ?_
        refine Gol.iaload X46 hx hby hZ e46 (V_A6.keep K nn_A6) d21_124 125 rfl (own_in2 hgb) (v := (1 : Int32)) ((own_rI hgb).trans (congrArg Value.int hcgb)) ?_
        refine Gol.dup2 X46 hx hby d21_125 126 rfl rfl rfl ?_
        refine Gol.daload X46 hx hby hZ e46 V_A16 d21_126 127 rfl ⟨by decide, by decide⟩ (v := (0 : UInt64)) rfl ?_
        refine Gol.dload X46 hx hby d21_127 129 rfl rfl ?_
        refine Gol.dadd X46 hx hby d21_129 130 rfl (v := (4607182418800017408 : UInt64)) (own_nn (by decide)) (by decide +kernel) ?_
        refine Gol.dastore X46 hx hby hZ e46 V_A16 d21_130 131 rfl ⟨by decide, by decide⟩ 1 rfl (Nat.le_of_ble_eq_true rfl) ?_
        intro T47 h47 X47 e47 W47 A47
        have V_A16 : Arv Z h47 (A 16) kf2 .double (2 : Int32) [(.double 4607182418800017408), (.double 4607182418800017408)] (.double 0) := A47
        have K := K.wr W47 (Or.inl (List.mem_of_getElem? (i := 0) rfl))
        have N47 := Fr.snoc X47 N32 (G 16 rfl)
        refine Gol.iinc X47 hx hby d21_131 134 rfl rfl (l' := #[vr (A 0), vd (FP.l2d ((prf ga nd0 nd1 tk0 tk1) + (prf gb nd0 nd1 tk0 tk1))), ss, vi 1, vi gb, vd 4607182418800017408, ss, vi (gb + (1 : Int32))]) rfl ?_
        refine Gol.goto X47 hx hby d21_134 100 (by decide) ?_
        refine Gol.iload X47 hx hby d21_100 102 rfl rfl ?_
        refine Gol.fB X47 hx hby hZ hown (w 48 _ rfl) e47 (B_A0.keep K nn_A0) 12 d21_102 d21_103 106 rfl rfl rfl rfl ?_
        intro T48 X48 e48
        refine Gol.iload X48 hx hby d21_106 108 rfl rfl ?_
        refine Gol.iconst X48 hx hby d21_108 109 rfl (z := (1 : Int32)) rfl ?_
        refine Gol.iadd X48 hx hby d21_109 110 rfl rfl ?_
        refine Gol.iaload X48 hx hby hZ e48 (V_A5.keep K nn_A5) d21_110 111 rfl (own_in31 hgb) (v := (gb + (1 : Int32))) (own_ds1 hgb) ?_
        refine Gol.icmpYes X48 hx hby d21_111 137 (by decide) (flt Int32.lt_irrefl).2.1 ?_
        refine Gol.iinc X48 hx hby d21_137 140 rfl rfl (l' := #[vr (A 0), vd (FP.l2d ((prf ga nd0 nd1 tk0 tk1) + (prf gb nd0 nd1 tk0 tk1))), ss, vi 2, vi gb, vd 4607182418800017408, ss, vi (gb + (1 : Int32))]) rfl ?_
        refine Gol.goto X48 hx hby d21_140 12 (by decide) ?_
        refine Gol.iloadN X48 hx hby d21_12 13 rfl rfl ?_
        refine Gol.fB X48 hx hby hZ hown (w 36 _ rfl) e48 (B_A0.keep K nn_A0) 6 d21_13 d21_14 17 rfl rfl rfl rfl ?_
        intro T49 X49 e49
        refine Gol.icmpYes X49 hx hby d21_17 143 (by decide) (flt (by decide : ¬ ((2 : Int32) < (2 : Int32)))).2.1 ?_
        exact k _ _ _ ((FP.l2d ((prf ga nd0 nd1 tk0 tk1) + (prf gb nd0 nd1 tk0 tk1))), gb, vi (gb + (1 : Int32)), 4607182418800017408, 4607182418800017408) X49 e49 ⟨N47, ((Keep.of_wr W32).trans (Keep.of_wr W47) (allS (Or.inl (List.mem_of_getElem? (i := 0) rfl)) all0)), ⟨_, V_A16⟩, Or.inr rfl, Or.inr rfl⟩
  intro T3 L3 h3 x3 X3 e3 hB3
  obtain ⟨zs, g4, u7, la, lb⟩ := x3
  obtain ⟨N3, Kq3, V16, hla, hlb⟩ := hB3
  have K := K.trans Kq3 (allS (Or.inl (List.mem_of_getElem? (i := 0) rfl)) all0)
  have Zs := Nat.le_trans Zs Kq3.1
  have V16 : Vv Z h3 (A 16) .double (2 : Int32) [(.double la), (.double lb)] (.double 0) := V16
  have hla : la = 0 ∨ la = 4607182418800017408 := hla
  have hlb : lb = 0 ∨ lb = 4607182418800017408 := hlb
  obtain ⟨k3_A16, V_A16⟩ := V16
  show GolF _ _ _ _ _ _ _ T3 m 143 #[vr (A 0), vd zs, ss, vi 2, vi g4, vd 4607182418800017408, ss, u7] []
  refine Gol.fB X3 hx hby hZ hown (w 103 _ rfl) e3 (B_A0.keep K nn_A0) 23 d21_143 d21_144 147 rfl rfl rfl rfl ?_
  intro T50 X50 e50
  refine Gol.lstoreN X50 hx hby d21_147 148 rfl (l' := #[vr (A 0), vd zs, ss, vj 3, ss, vd 4607182418800017408, ss, u7]) rfl ?_
  refine Gol.lloadN X50 hx hby d21_148 149 rfl rfl ?_
  refine Gol.lconst X50 hx hby d21_149 150 rfl (z := (0 : Int64)) rfl ?_
  refine Gol.lcmp X50 hx hby d21_150 151 rfl ?_
  refine Gol.ifNo X50 hx hby d21_151 154 rfl (feqL (by decide : ¬ ((3 : Int64) = (0 : Int64)))).1 ?_
  refine Gol.lloadN X50 hx hby d21_154 155 rfl rfl ?_
  refine Gol.callS X50 hx hby hZ hown 0 [(.long 3)] (w 59 _ rfl) (w 60 _ rfl) (w 52 _ rfl) (w 61 _ rfl) (by decide) (rm5 l Z a0 hw [] (3 : Int64)  h3 n0 Zs (Or.inr (Or.inr rfl))) (by decide) (by decide) e50 (by rw [hml]; rfl) (rest := []) (Nat.le_of_eq rfl) (by decide) (by decide) (lenOf pd_7 rfl) rfl d21_155 158 rfl ?_
  intro T51 v51 L51 X51 hQ51
  obtain ⟨rfl, Nq51, eq51⟩ := hQ51
  have N51 := Fr.app N3 Nq51
  show GolF _ _ _ _ _ _ _ T51 m 158 #[vr (A 0), vd zs, ss, vj 3, ss, vd 4607182418800017408, ss, u7] [(.int (nzL 3))]
  rw [(by decide : nzL 3 = 0)]
  show GolF _ _ _ _ _ _ _ T51 m 158 #[vr (A 0), vd zs, ss, vj 3, ss, vd 4607182418800017408, ss, u7] [(.int 0)]
  refine Gol.istore X51 hx hby d21_158 160 rfl (l' := #[vr (A 0), vd zs, ss, vj 3, ss, vi 0, uu, u7]) rfl ?_
  refine Gol.fB X51 hx hby hZ hown (w 81 _ rfl) eq51 (B_A0.keep K nn_A0) 21 d21_160 d21_161 164 rfl rfl rfl rfl ?_
  intro T52 X52 e52
  refine Gol.iload X52 hx hby d21_164 166 rfl rfl ?_
  refine Gol.daload X52 hx hby hZ e52 V_A16 d21_166 167 rfl ⟨by decide, by decide⟩ (v := la) rfl ?_
  refine Gol.dconst1 X52 hx hby d21_167 168 rfl (v := (4607182418800017408 : UInt64)) (by decide +kernel) ?_
  refine Gol.dcmp X52 hx hby d21_168 169 rfl (v := (cmpValue (FP.dcmp la (4607182418800017408 : UInt64)) .l)) rfl ?_
  refine Gol.ifYes X52 hx hby d21_169 193 (by decide) ((if0 _ _).trans (flt (own_le1 hla)).2.2.2) ?_
  refine Gol.lloadN X52 hx hby d21_193 194 rfl rfl ?_
  refine Gol.lloadN X52 hx hby d21_194 195 rfl rfl ?_
  refine Gol.lconst X52 hx hby d21_195 196 rfl (z := (1 : Int64)) rfl ?_
  refine Gol.lsub X52 hx hby d21_196 197 rfl (z := (2 : Int64)) (by decide +kernel) ?_
  refine Gol.land X52 hx hby d21_197 198 rfl (z := (2 : Int64)) (by decide +kernel) ?_
  refine Gol.lstoreN X52 hx hby d21_198 199 rfl (l' := #[vr (A 0), vd zs, ss, vj 2, ss, vi 0, uu, u7]) rfl ?_
  refine Gol.goto X52 hx hby d21_199 148 (by decide) ?_
  refine Gol.lloadN X52 hx hby d21_148 149 rfl rfl ?_
  refine Gol.lconst X52 hx hby d21_149 150 rfl (z := (0 : Int64)) rfl ?_
  refine Gol.lcmp X52 hx hby d21_150 151 rfl ?_
  refine Gol.ifNo X52 hx hby d21_151 154 rfl (feqL (by decide : ¬ ((2 : Int64) = (0 : Int64)))).1 ?_
  refine Gol.lloadN X52 hx hby d21_154 155 rfl rfl ?_
  refine Gol.callS X52 hx hby hZ hown 0 [(.long 2)] (w 59 _ rfl) (w 60 _ rfl) (w 52 _ rfl) (w 61 _ rfl) (by decide) (rm5 l Z a0 hw [] (2 : Int64)  h3 n0 Zs (Or.inr (Or.inl rfl))) (by decide) (by decide) e52 (by rw [hml]; rfl) (rest := []) (Nat.le_of_eq rfl) (by decide) (by decide) (lenOf pd_7 rfl) rfl d21_155 158 rfl ?_
  intro T53 v53 L53 X53 hQ53
  obtain ⟨rfl, Nq53, eq53⟩ := hQ53
  have N53 := Fr.app N51 Nq53
  show GolF _ _ _ _ _ _ _ T53 m 158 #[vr (A 0), vd zs, ss, vj 2, ss, vi 0, uu, u7] [(.int (nzL 2))]
  rw [(by decide : nzL 2 = 1)]
  show GolF _ _ _ _ _ _ _ T53 m 158 #[vr (A 0), vd zs, ss, vj 2, ss, vi 0, uu, u7] [(.int 1)]
  refine Gol.istore X53 hx hby d21_158 160 rfl (l' := #[vr (A 0), vd zs, ss, vj 2, ss, vi 1, uu, u7]) rfl ?_
  refine Gol.fB X53 hx hby hZ hown (w 81 _ rfl) eq53 (B_A0.keep K nn_A0) 21 d21_160 d21_161 164 rfl rfl rfl rfl ?_
  intro T54 X54 e54
  refine Gol.iload X54 hx hby d21_164 166 rfl rfl ?_
  refine Gol.daload X54 hx hby hZ e54 V_A16 d21_166 167 rfl ⟨by decide, by decide⟩ (v := lb) rfl ?_
  refine Gol.dconst1 X54 hx hby d21_167 168 rfl (v := (4607182418800017408 : UInt64)) (by decide +kernel) ?_
  refine Gol.dcmp X54 hx hby d21_168 169 rfl (v := (cmpValue (FP.dcmp lb (4607182418800017408 : UInt64)) .l)) rfl ?_
  refine Gol.ifYes X54 hx hby d21_169 193 (by decide) ((if0 _ _).trans (flt (own_le1 hlb)).2.2.2) ?_
  refine Gol.lloadN X54 hx hby d21_193 194 rfl rfl ?_
  refine Gol.lloadN X54 hx hby d21_194 195 rfl rfl ?_
  refine Gol.lconst X54 hx hby d21_195 196 rfl (z := (1 : Int64)) rfl ?_
  refine Gol.lsub X54 hx hby d21_196 197 rfl (z := (1 : Int64)) (by decide +kernel) ?_
  refine Gol.land X54 hx hby d21_197 198 rfl (z := (0 : Int64)) (by decide +kernel) ?_
  refine Gol.lstoreN X54 hx hby d21_198 199 rfl (l' := #[vr (A 0), vd zs, ss, vj 0, ss, vi 1, uu, u7]) rfl ?_
  refine Gol.goto X54 hx hby d21_199 148 (by decide) ?_
  refine Gol.lloadN X54 hx hby d21_148 149 rfl rfl ?_
  refine Gol.lconst X54 hx hby d21_149 150 rfl (z := (0 : Int64)) rfl ?_
  refine Gol.lcmp X54 hx hby d21_150 151 rfl ?_
  refine Gol.ifYes X54 hx hby d21_151 202 (by decide) (teqL (by decide : (0 : Int64) = (0 : Int64))).1 ?_
  refine Gol.dloadN X54 hx hby d21_202 203 rfl rfl ?_
  exact Gol.retD X54 hx hby Bd.returns Bd.notSynchronized d21_203 e54 ⟨⟨_, rfl⟩, N53, K⟩ (by decide) (by decide)

theorem own_sel0 {α : Type} {x y : α} : sel (0 : Int32) x y = x := if_pos rfl
theorem own_sel1 {α : Type} {x y : α} : sel (1 : Int32) x y = y := if_neg (by decide)
abbrev Tk (g nd0 nd1 tk0 tk1 : Int32) : Prop := g < 2 ∧ sel g tk0 tk1 < sel g nd0 nd1
abbrev WR (Ta Tb : Prop) (ga gb kk oa ob : Int32) (qa qb : UInt64) : Prop := (¬ Ta ∧ ¬ Tb ∧ kk = 0) ∨ (Ta ∧ ¬ Tb ∧ kk = 1 ∧ oa = ga ∧ qa = 4607182418800017408) ∨ (¬ Ta ∧ Tb ∧ kk = 1 ∧ oa = gb ∧ qa = 4607182418800017408) ∨ (Ta ∧ Tb ∧ kk = 2 ∧ oa = ga ∧ ob = gb ∧ qa = 4607182418800017408 ∧ qb = 4607182418800017408)
abbrev Sh (a nd0 nd1 tk0 tk1 : Int32) : Prop := 0 < (prf a nd0 nd1 tk0 tk1).toInt ∧ sel a tk0 tk1 < sel a nd0 nd1
abbrev SC (sc a b nd0 nd1 tk0 tk1 : Int32) : Prop := sc = 0 ∨ (sc = 1 ∧ Sh a nd0 nd1 tk0 tk1) ∨ (sc = 2 ∧ Sh a nd0 nd1 tk0 tk1 ∧ Sh b nd0 nd1 tk0 tk1)
abbrev SR (sc a b ga gb : Int32) : Prop := (sc = 0 ∧ ga = 4 ∧ gb = 5) ∨ (sc = 1 ∧ ((ga = a ∧ gb = 5) ∨ (ga = 4 ∧ gb = a))) ∨ (sc = 2 ∧ ((ga = a ∧ gb = b) ∨ (ga = b ∧ gb = a)))
theorem own_split {sc pp a b nd0 nd1 tk0 tk1 : Int32} (h : SC sc a b nd0 nd1 tk0 tk1) (hp : pp = 1 ∨ pp = 100) :
    sc = 0 ∨ (sc = 1 ∧ Sh a nd0 nd1 tk0 tk1) ∨ (sc = 2 ∧ pp = 1 ∧ Sh a nd0 nd1 tk0 tk1 ∧ Sh b nd0 nd1 tk0 tk1) ∨ (sc = 2 ∧ pp = 100 ∧ Sh a nd0 nd1 tk0 tk1 ∧ Sh b nd0 nd1 tk0 tk1) := by
  rcases h with h | h | ⟨h1, h2, h3⟩
  · exact Or.inl h
  · exact Or.inr (Or.inl h)
  · rcases hp with hp | hp
    · exact Or.inr (Or.inr (Or.inl ⟨h1, hp, h2, h3⟩))
    · exact Or.inr (Or.inr (Or.inr ⟨h1, hp, h2, h3⟩))
theorem own_mr {c : Int32} (hc : B01 c) {P M0 M1 Mp Mq : Int64} {s0 s1 : Int32} (hP : 0 ≤ P.toInt ∧ P.toInt ≤ (sel c s0 s1).toInt) (h0 : 0 ≤ M0.toInt ∧ M0.toInt ≤ s0.toInt) (h1 : 0 ≤ M1.toInt ∧ M1.toInt ≤ s1.toInt) (e0 : Mp = sel c P M0) (e1 : Mq = sel c M1 P) : (0 ≤ Mp.toInt ∧ Mp.toInt ≤ s0.toInt) ∧ (0 ≤ Mq.toInt ∧ Mq.toInt ≤ s1.toInt) := by
  rcases hc with rfl | rfl
  · rw [own_sel0] at hP e0 e1; subst e0 e1; exact ⟨hP, h1⟩
  · rw [own_sel1] at hP e0 e1; subst e0 e1; exact ⟨h0, hP⟩
theorem own_nb {x c x0 x1 xp xq : Int32} (hx : B01 x) (hc : B01 c) (e0 : xp = sel x c x0) (e1 : xq = sel x x1 c) : ¬ sel x xp xq < 0 := by
  subst e0 e1
  rcases hx with rfl | rfl
  · rw [own_sel0, own_sel0]; exact (own_in2 hc).1
  · rw [own_sel1, own_sel1]; exact (own_in2 hc).1
theorem own_ob {x y c x0 x1 xp xq : Int32} (hx : B01 x) (hy : B01 y) (ne : x ≠ y) (e0 : xp = sel x c x0) (e1 : xq = sel x x1 c) : sel y xp xq = sel y x0 x1 := by
  subst e0 e1
  rcases hx with rfl | rfl <;> rcases hy with rfl | rfl
  · exact absurd rfl ne
  · rw [own_sel1, own_sel0, own_sel1]
  · rw [own_sel0, own_sel1, own_sel0]
  · exact absurd rfl ne
theorem own_in1 {x : Int32} (hx : B01 x) : sel x (-1 : Int32) (-1) < 0 := by rcases hx with rfl | rfl <;> decide
theorem own_md {c : Int32} (hc : B01 c) {M0 M1 : Int64} (h : sel c M0 M1 = 0) : sel c (FP.l2d M0) (FP.l2d M1) = 0 := by
  rcases hc with rfl | rfl
  · rw [own_sel0] at h ⊢; rw [h, l2d_zero]
  · rw [own_sel1] at h ⊢; rw [h, l2d_zero]
theorem own_m00 {c : Int32} (hc : B01 c) : sel c (0 : Int64) 0 = 0 := by rcases hc with rfl | rfl <;> rfl
theorem own_mz {c d : Int32} (hc : B01 c) (hd : B01 d) (ne : c ≠ d) {P Mp Mq : Int64} (e0 : Mp = sel c P 0) (e1 : Mq = sel c 0 P) : sel d Mp Mq = 0 := by
  subst e0 e1
  rcases hc with rfl | rfl <;> rcases hd with rfl | rfl
  · exact absurd rfl ne
  · rw [own_sel1, own_sel0]
  · rw [own_sel0, own_sel1]
  · exact absurd rfl ne
theorem own_gy {c d x gp gq : Int32} (hc : B01 c) (ne : c ≠ d) (e0 : gp = sel c x 4) (e1 : gq = sel c 5 x) : (d = 0 → gp = 4) ∧ (d = 1 → gq = 5) := by
  subst e0 e1
  rcases hc with rfl | rfl
  · exact ⟨fun q => absurd q.symm ne, fun _ => own_sel0⟩
  · exact ⟨fun _ => own_sel1, fun q => absurd q.symm ne⟩
theorem own_cne {x y dc0 dc1 : Int32} (hx : B01 x) (hy : B01 y) (ne : x ≠ y) (hd : dc0 ≠ dc1) : sel x dc0 dc1 ≠ sel y dc0 dc1 := by
  rcases hx with rfl | rfl <;> rcases hy with rfl | rfl
  · exact absurd rfl ne
  · rw [own_sel0, own_sel1]; exact hd
  · rw [own_sel0, own_sel1]; exact hd.symm
  · exact absurd rfl ne
theorem own_one1 {a dc0 dc1 gp gq nd0 nd1 tk0 tk1 : Int32} (ha : B01 a) (hc : B01 (sel a dc0 dc1)) (e0 : gp = sel (sel a dc0 dc1) a 4) (e1 : gq = sel (sel a dc0 dc1) 5 a) (sa : Sh a nd0 nd1 tk0 tk1) : (gp = 4 ∨ (B01 gp ∧ sel gp dc0 dc1 = 0 ∧ Sh gp nd0 nd1 tk0 tk1)) ∧ (gq = 5 ∨ (B01 gq ∧ sel gq dc0 dc1 = 1 ∧ Sh gq nd0 nd1 tk0 tk1)) ∧ ((gp = a ∧ gq = 5) ∨ (gp = 4 ∧ gq = a)) := by
  rcases hc with h | h
  · rw [h, own_sel0] at e0 e1; subst e0 e1; exact ⟨Or.inr ⟨ha, h, sa⟩, Or.inl rfl, Or.inl ⟨rfl, rfl⟩⟩
  · rw [h, own_sel1] at e0 e1; subst e0 e1; exact ⟨Or.inl rfl, Or.inr ⟨ha, h, sa⟩, Or.inr ⟨rfl, rfl⟩⟩
theorem own_two {x y c d gp gq gr gs : Int32} (hc : B01 c) (hd : B01 d) (ne : c ≠ d) (e0 : gp = sel c x 4) (e1 : gq = sel c 5 x) (f0 : gr = sel d y gp) (f1 : gs = sel d gq y) : (c = 0 ∧ d = 1 ∧ gr = x ∧ gs = y) ∨ (c = 1 ∧ d = 0 ∧ gr = y ∧ gs = x) := by
  rcases hc with rfl | rfl <;> rcases hd with rfl | rfl
  · exact absurd rfl ne
  · rw [own_sel0] at e0 e1; rw [own_sel1] at f0 f1; exact Or.inl ⟨rfl, rfl, f0.trans e0, f1⟩
  · rw [own_sel1] at e0 e1; rw [own_sel0] at f0 f1; exact Or.inr ⟨rfl, rfl, f0, f1.trans e1⟩
  · exact absurd rfl ne
abbrev Fin2 (ga gb dc0 dc1 nd0 nd1 tk0 tk1 : Int32) : Prop := B01 ga ∧ B01 gb ∧ sel ga dc0 dc1 = 0 ∧ sel gb dc0 dc1 = 1 ∧ Sh ga nd0 nd1 tk0 tk1 ∧ Sh gb nd0 nd1 tk0 tk1
theorem own_fin2 {x y dc0 dc1 gp gq gr gs nd0 nd1 tk0 tk1 : Int32} (hx : B01 x) (hy : B01 y) (hc : B01 (sel x dc0 dc1)) (hd : B01 (sel y dc0 dc1)) (ne : sel x dc0 dc1 ≠ sel y dc0 dc1) (sx : Sh x nd0 nd1 tk0 tk1) (sy : Sh y nd0 nd1 tk0 tk1) (e0 : gp = sel (sel x dc0 dc1) x 4) (e1 : gq = sel (sel x dc0 dc1) 5 x) (f0 : gr = sel (sel y dc0 dc1) y gp) (f1 : gs = sel (sel y dc0 dc1) gq y) : Fin2 gr gs dc0 dc1 nd0 nd1 tk0 tk1 ∧ ((gr = x ∧ gs = y) ∨ (gr = y ∧ gs = x)) := by
  rcases own_two hc hd ne e0 e1 f0 f1 with ⟨p, q, g1, g2⟩ | ⟨p, q, g1, g2⟩
  · rw [g1, g2]; exact ⟨⟨hx, hy, p, q, sx, sy⟩, Or.inl ⟨rfl, rfl⟩⟩
  · rw [g1, g2]; exact ⟨⟨hy, hx, q, p, sy, sx⟩, Or.inr ⟨rfl, rfl⟩⟩
theorem own_en : FP.l2d 2147483647 = 4746794007244308480 := by decide +kernel
theorem own_en2 {O : Int64} (h : B53 O) (o : CmpOp) : cmpValue (FP.dcmp (FP.l2d O) 4746794007244308480) o = lcmpW O 2147483647 := by
  rw [← own_en]
  exact dcmpV_w h (⟨by decide, by decide⟩ : _ ∧ _) o
theorem own_en3 {O : Int64} {x : Int32} (h : O = 0 + x.toInt64) : ¬ (0 : Int32) < lcmpW O 2147483647 := by
  rw [Int64.zero_add] at h
  have e : O.toInt = x.toInt := by rw [h]; simp
  have x2 := Int32.toInt_lt x
  have q : ¬ O > 2147483647 := fun g => by
    have g2 := Int64.lt_iff_toInt_lt.mp g
    have e2 : (2147483647 : Int64).toInt = 2147483647 := by decide
    rw [e2] at g2
    omega
  show ¬ (0 : Int32) < (if O > 2147483647 then 1 else if O = 2147483647 then 0 else -1)
  rw [if_neg q]
  by_cases q2 : O = 2147483647
  · rw [if_pos q2]; decide
  · rw [if_neg q2]; decide
theorem own_bO {O : Int64} {x : Int32} (h : O = 0 + x.toInt64) : B53 O := by rw [h, Int64.zero_add]; exact own_b53 x
theorem own_bO2 {O R : Int64} {x y : Int32} (h : O = 0 + x.toInt64) (h2 : R = O + y.toInt64) : B53 R := by
  rw [h2, h, Int64.zero_add]
  have s := add64 (own_b53 x) (own_b53 y)
  have e : x.toInt64.toInt = x.toInt := by simp
  have e2 : y.toInt64.toInt = y.toInt := by simp
  have a1 := Int32.toInt_lt x
  have a2 := Int32.le_toInt x
  have b1 := Int32.toInt_lt y
  have b2 := Int32.le_toInt y
  exact (⟨by rw [s, e, e2]; omega, by rw [s, e, e2]; omega⟩ : -9007199254740992 < (x.toInt64 + y.toInt64).toInt ∧ (x.toInt64 + y.toInt64).toInt < 9007199254740992)

abbrev dc22 (i : Nat) (x : Instr) (n : Nat) : Prop := decode prog_8_method_7_code i = .ok (x, n)
theorem d22_0 : dc22 0 (.iconst 0) 1 := by decide +kernel
theorem d22_1 : dc22 1 (.istore_n 3) 1 := by decide +kernel
theorem d22_2 : dc22 2 (.iconst 0) 1 := by decide +kernel
theorem d22_3 : dc22 3 (.istore 4) 2 := by decide +kernel
theorem d22_5 : dc22 5 (.iload 4) 2 := by decide +kernel
theorem d22_7 : dc22 7 (.aload_n 0) 1 := by decide +kernel
theorem d22_8 : dc22 8 (.getfield 39) 3 := by decide +kernel
theorem d22_11 : dc22 11 (.if_icmp .ge 74) 3 := by decide +kernel
theorem d22_14 : dc22 14 (.aload_n 0) 1 := by decide +kernel
theorem d22_15 : dc22 15 (.getfield 75) 3 := by decide +kernel
theorem d22_18 : dc22 18 (.iload 4) 2 := by decide +kernel
theorem d22_20 : dc22 20 .iaload 1 := by decide +kernel
theorem d22_21 : dc22 21 (.istore 5) 2 := by decide +kernel
theorem d22_23 : dc22 23 (.iload 5) 2 := by decide +kernel
theorem d22_25 : dc22 25 (.aload_n 0) 1 := by decide +kernel
theorem d22_26 : dc22 26 (.getfield 54) 3 := by decide +kernel
theorem d22_29 : dc22 29 (.if_icmp .ge 50) 3 := by decide +kernel
theorem d22_32 : dc22 32 (.aload_n 0) 1 := by decide +kernel
theorem d22_33 : dc22 33 (.getfield 78) 3 := by decide +kernel
theorem d22_36 : dc22 36 (.iload 4) 2 := by decide +kernel
theorem d22_38 : dc22 38 .daload 1 := by decide +kernel
theorem d22_39 : dc22 39 (.dconst 0) 1 := by decide +kernel
theorem d22_40 : dc22 40 (.dcmp .l) 1 := by decide +kernel
theorem d22_41 : dc22 41 (.ifCond .le 38) 3 := by decide +kernel
theorem d22_44 : dc22 44 (.aload_n 0) 1 := by decide +kernel
theorem d22_45 : dc22 45 (.getfield 45) 3 := by decide +kernel
theorem d22_48 : dc22 48 (.iload 5) 2 := by decide +kernel
theorem d22_50 : dc22 50 .iaload 1 := by decide +kernel
theorem d22_51 : dc22 51 (.aload_n 0) 1 := by decide +kernel
theorem d22_52 : dc22 52 (.getfield 48) 3 := by decide +kernel
theorem d22_55 : dc22 55 (.iload 5) 2 := by decide +kernel
theorem d22_57 : dc22 57 .iaload 1 := by decide +kernel
theorem d22_58 : dc22 58 (.if_icmp .le 21) 3 := by decide +kernel
theorem d22_61 : dc22 61 (.aload_n 1) 1 := by decide +kernel
theorem d22_62 : dc22 62 (.iload_n 3) 1 := by decide +kernel
theorem d22_63 : dc22 63 (.iload 5) 2 := by decide +kernel
theorem d22_65 : dc22 65 .iastore 1 := by decide +kernel
theorem d22_66 : dc22 66 (.aload_n 2) 1 := by decide +kernel
theorem d22_67 : dc22 67 (.iload_n 3) 1 := by decide +kernel
theorem d22_68 : dc22 68 (.aload_n 0) 1 := by decide +kernel
theorem d22_69 : dc22 69 (.getfield 78) 3 := by decide +kernel
theorem d22_72 : dc22 72 (.iload 4) 2 := by decide +kernel
theorem d22_74 : dc22 74 .daload 1 := by decide +kernel
theorem d22_75 : dc22 75 .dastore 1 := by decide +kernel
theorem d22_76 : dc22 76 (.iinc 3 1) 3 := by decide +kernel
theorem d22_79 : dc22 79 (.iinc 4 1) 3 := by decide +kernel
theorem d22_82 : dc22 82 (.goto (-77)) 3 := by decide +kernel
theorem d22_85 : dc22 85 (.iload_n 3) 1 := by decide +kernel
theorem d22_86 : dc22 86 .ireturn 1 := by decide +kernel
theorem pn_22 : plainName "com/example/quorumstone/quorumstone/check/Relaxation" = true := by first | (simp [plainName, overriddenIn]; done) | decide +kernel
theorem ef_Wei (m : MethodId) (r1 : Addr) (r2 : Addr) (A : Nat → Addr) : entryFrame m #[(.ref (A 0)), (.ref r1), (.ref r2)] 6 = mkF m 0 #[vr (A 0), vr r1, vr r2, uu, uu, uu] [] := by first | (simp [entryFrame, mkF, argsToLocals, Value.category]; done) | rfl
abbrev QWei (Z : State) (r1 r2 : Addr) (A : Nat → Addr) (pp cc nx wk ps : Int32) (un : Int64) (op ga gb nd0 nd1 tk0 tk1 xa xb : Int32) (xc xd : UInt64) (h0 : Heap) (n0 : Nat) (v : Option Value) (h : Heap) (L : List Loc) : Prop := ∃ (kk oa ob : Int32) (qa qb : UInt64), v = some (.int kk) ∧ Fr n0 L ∧ Keep h0 h [r1, r2] ∧ Vv Z h r1 .int (2 : Int32) [(.int oa), (.int ob)] (.int 0) ∧ Vv Z h r2 .double (2 : Int32) [(.double qa), (.double qb)] (.double 0) ∧ WR (Tk ga nd0 nd1 tk0 tk1) (Tk gb nd0 nd1 tk0 tk1) ga gb kk oa ob qa qb
set_option maxRecDepth 65536 in
set_option maxHeartbeats 40000000 in
theorem rmWei (l : Launch) (Z : State) (a0 : Array Value) (hw : TW a0 Z) (ws : List Jvm.Cond) (r1 r2 : Addr) (A : Nat → Addr) (pp cc nx wk ps : Int32) (un : Int64) (op ga gb nd0 nd1 tk0 tk1 xa xb : Int32) (xc xd : UInt64) (h0 : Heap) (n0 : Nat) (Zs : n0 ≤ h0.size) (B_A0 : FL Z h0 (A 0) (rxv A pp cc nx wk ps un op)) (E_A0 : Exa Z h0 (A 0) "com/example/quorumstone/quorumstone/check/Relaxation") (P2 : Vv Z h0 (A 2) .int (2 : Int32) [(.int nd0), (.int nd1)] (.int 0)) (P3 : Vv Z h0 (A 3) .int (2 : Int32) [(.int tk0), (.int tk1)] (.int 0)) (P8 : Vv Z h0 (A 8) .int (2 : Int32) [(.int ga), (.int gb)] (.int 0)) (P9 : Vv Z h0 (A 9) .double (2 : Int32) [(.double 4607182418800017408), (.double 4607182418800017408)] (.double 0)) (Pr1 : Vv Z h0 r1 .int (2 : Int32) [(.int xa), (.int xb)] (.int 0)) (Pr2 : Vv Z h0 r2 .double (2 : Int32) [(.double xc), (.double xd)] (.double 0)) (Nr1 : ∀ i : Nat, decide (i < 22) = true → A i ≠ r1) (Nr2 : ∀ i : Nat, decide (i < 22) = true → A i ≠ r2) (ne_r1_r2 : r1 ≠ r2) (g_r1 : n0 ≤ r1) (g_r2 : n0 ≤ r2) (hga : ga < 2 → B01 ga) (hgb : gb < 2 → B01 gb) :
    Mt l (⟨"com/example/quorumstone/quorumstone/check/Relaxation", "weights", "([I[D)I"⟩ : MethodName) prog_8_method_7_code 6 (some .int) ws (rmm 0 0 0 0) #[(.ref (A 0)), (.ref r1), (.ref r2)] Z h0 (QWei Z r1 r2 A pp cc nx wk ps un op ga gb nd0 nd1 tk0 tk1 xa xb xc xd h0 n0) 0 0 := by
  refine own_body n0 (plainFor_of_name pn_22) hw (fun m => ef_Wei m r1 r2 A) ?_
  intro p ev s m below meth c s₁ Bd hZ hx hby hml hown X0 eh0 N0 w
  obtain ⟨k_A2, V_A2⟩ := P2
  obtain ⟨k_A3, V_A3⟩ := P3
  obtain ⟨k_A8, V_A8⟩ := P8
  obtain ⟨k_A9, V_A9⟩ := P9
  obtain ⟨kr1, V_r1⟩ := Pr1
  have ne_A0_r1 : A 0 ≠ r1 := Nr1 0 rfl
  have ne_A2_r1 : A 2 ≠ r1 := Nr1 2 rfl
  have ne_A3_r1 : A 3 ≠ r1 := Nr1 3 rfl
  have ne_A8_r1 : A 8 ≠ r1 := Nr1 8 rfl
  have ne_A9_r1 : A 9 ≠ r1 := Nr1 9 rfl
  obtain ⟨kr2, V_r2⟩ := Pr2
  have ne_A0_r2 : A 0 ≠ r2 := Nr2 0 rfl
  have ne_A2_r2 : A 2 ≠ r2 := Nr2 2 rfl
  have ne_A3_r2 : A 3 ≠ r2 := Nr2 3 rfl
  have ne_A8_r2 : A 8 ≠ r2 := Nr2 8 rfl
  have ne_A9_r2 : A 9 ≠ r2 := Nr2 9 rfl
  have nn_A0 : (A 0) ∉ [r1, r2] := (ninS ne_A0_r1 (ninS ne_A0_r2 nin0))
  have nn_A2 : (A 2) ∉ [r1, r2] := (ninS ne_A2_r1 (ninS ne_A2_r2 nin0))
  have nn_A3 : (A 3) ∉ [r1, r2] := (ninS ne_A3_r1 (ninS ne_A3_r2 nin0))
  have nn_A8 : (A 8) ∉ [r1, r2] := (ninS ne_A8_r1 (ninS ne_A8_r2 nin0))
  have nn_A9 : (A 9) ∉ [r1, r2] := (ninS ne_A9_r1 (ninS ne_A9_r2 nin0))
  have K := Keep.refl h0 [r1, r2]
  show GolF _ _ _ _ _ _ _ s₁ m 0 #[vr (A 0), vr r1, vr r2, uu, uu, uu] []
  refine Gol.iconst X0 hx hby d22_0 1 rfl (z := (0 : Int32)) rfl ?_
  refine Gol.istoreN X0 hx hby d22_1 2 rfl (l' := #[vr (A 0), vr r1, vr r2, vi 0, uu, uu]) rfl ?_
  refine Gol.iconst X0 hx hby d22_2 3 rfl (z := (0 : Int32)) rfl ?_
  refine Gol.istore X0 hx hby d22_3 5 rfl (l' := #[vr (A 0), vr r1, vr r2, vi 0, vi 0, uu]) rfl ?_
  refine Gol.iload X0 hx hby d22_5 7 rfl rfl ?_
  refine Gol.fB X0 hx hby hZ hown (w 36 _ rfl) eh0 B_A0 6 d22_7 d22_8 11 rfl rfl rfl rfl ?_
  intro T1 X1 e1
  refine Gol.icmpNo X1 hx hby d22_11 14 rfl (tlt (by decide : (0 : Int32) < (2 : Int32))).2.1 ?_
  refine Gol.fB X1 hx hby hZ hown (w 69 _ rfl) e1 B_A0 15 d22_14 d22_15 18 rfl rfl rfl rfl ?_
  intro T2 X2 e2
  refine Gol.iload X2 hx hby d22_18 20 rfl rfl ?_
  refine Gol.iaload X2 hx hby hZ e2 V_A8 d22_20 21 rfl ⟨by decide, by decide⟩ (v := ga) rfl ?_
  refine Gol.istore X2 hx hby d22_21 23 rfl (l' := #[vr (A 0), vr r1, vr r2, vi 0, vi 0, vi ga]) rfl ?_
  refine Gol.iload X2 hx hby d22_23 25 rfl rfl ?_
  refine Gol.fB X2 hx hby hZ hown (w 46 _ rfl) e2 B_A0 11 d22_25 d22_26 29 rfl rfl rfl rfl ?_
  intro T3 X3 e3
  by_cases hc29_4 : ga < (2 : Int32)
  · skip
    refine Gol.icmpNo X3 hx hby d22_29 32 rfl (tlt hc29_4).2.1 ?_
    refine Gol.fB X3 hx hby hZ hown (w 71 _ rfl) e3 B_A0 16 d22_32 d22_33 36 rfl rfl rfl rfl ?_
    intro T5 X5 e5
    refine Gol.iload X5 hx hby d22_36 38 rfl rfl ?_
    refine Gol.daload X5 hx hby hZ e5 V_A9 d22_38 39 rfl ⟨by decide, by decide⟩ (v := (4607182418800017408 : UInt64)) rfl ?_
    refine Gol.dconst0 X5 hx hby d22_39 40 rfl (v := (0 : UInt64)) (by decide +kernel) ?_
    refine Gol.dcmp X5 hx hby d22_40 41 rfl (v := (1 : Int32)) (by decide +kernel) ?_
    refine Gol.ifNo X5 hx hby d22_41 44 rfl ((if0 _ _).trans (tlt (by decide : (0 : Int32) < (1 : Int32))).2.2.2) ?_
    refine Gol.fB X5 hx hby hZ hown (w 40 _ rfl) e5 B_A0 8 d22_44 d22_45 48 rfl rfl rfl rfl ?_
    intro T6 X6 e6
    refine Gol.iload X6 hx hby d22_48 50 rfl rfl ?_
    refine Gol.iaload X6 hx hby hZ e6 V_A2 d22_50 51 rfl (own_in2 (hga hc29_4)) (v := (sel ga nd0 nd1)) (own_rI (hga hc29_4)) ?_
    refine Gol.fB X6 hx hby hZ hown (w 42 _ rfl) e6 B_A0 9 d22_51 d22_52 55 rfl rfl rfl rfl ?_
    intro T7 X7 e7
    refine Gol.iload X7 hx hby d22_55 57 rfl rfl ?_
    refine Gol.iaload X7 hx hby hZ e7 V_A3 d22_57 58 rfl (own_in2 (hga hc29_4)) (v := (sel ga tk0 tk1)) (own_rI (hga hc29_4)) ?_
    by_cases hc58_8 : (sel ga tk0 tk1) < (sel ga nd0 nd1)
    · skip
      refine Gol.icmpNo X7 hx hby d22_58 61 rfl (tlt hc58_8).2.2.2 ?_
      refine Gol.aloadN X7 hx hby d22_61 62 rfl rfl rfl ?_
      refine Gol.iloadN X7 hx hby d22_62 63 rfl rfl ?_
      refine Gol.iload X7 hx hby d22_63 65 rfl rfl ?_
      refine Gol.iastore X7 hx hby hZ e7 V_r1 d22_65 66 rfl ⟨by decide, by decide⟩ 0 rfl (Nat.le_of_ble_eq_true rfl) ?_
      intro T9 h9 X9 e9 W9 A9
      have V_r1 : Arv Z h9 r1 kr1 .int (2 : Int32) [(.int ga), (.int xb)] (.int 0) := A9
      have V_r2 := V_r2.other W9 ne_r1_r2.symm
      have K := K.wr W9 (Or.inl (List.mem_of_getElem? (i := 0) rfl))
      have N9 := Fr.snoc X9 N0 g_r1
      refine Gol.aloadN X9 hx hby d22_66 67 rfl rfl rfl ?_
      refine Gol.iloadN X9 hx hby d22_67 68 rfl rfl ?_
      refine Gol.fB X9 hx hby hZ hown (w 71 _ rfl) e9 (B_A0.keep K nn_A0) 16 d22_68 d22_69 72 rfl rfl rfl rfl ?_
      intro T10 X10 e10
      refine Gol.iload X10 hx hby d22_72 74 rfl rfl ?_
      refine Gol.daload X10 hx hby hZ e10 (V_A9.keep K nn_A9) d22_74 75 rfl ⟨by decide, by decide⟩ (v := (4607182418800017408 : UInt64)) rfl ?_
      refine Gol.dastore X10 hx hby hZ e10 V_r2 d22_75 76 rfl ⟨by decide, by decide⟩ 0 rfl (Nat.le_of_ble_eq_true rfl) ?_
      intro T11 h11 X11 e11 W11 A11
      have V_r2 : Arv Z h11 r2 kr2 .double (2 : Int32) [(.double 4607182418800017408), (.double xd)] (.double 0) := A11
      have V_r1 := V_r1.other W11 ne_r1_r2
      have K := K.wr W11 (Or.inl (List.mem_of_getElem? (i := 1) rfl))
      have N11 := Fr.snoc X11 N9 g_r2
      refine Gol.iinc X11 hx hby d22_76 79 rfl rfl (l' := #[vr (A 0), vr r1, vr r2, vi 1, vi 0, vi ga]) rfl ?_
      refine Gol.iinc X11 hx hby d22_79 82 rfl rfl (l' := #[vr (A 0), vr r1, vr r2, vi 1, vi 1, vi ga]) rfl ?_
      refine Gol.goto X11 hx hby d22_82 5 (by decide) ?_
      refine Gol.iload X11 hx hby d22_5 7 rfl rfl ?_
      refine Gol.fB X11 hx hby hZ hown (w 36 _ rfl) e11 (B_A0.keep K nn_A0) 6 d22_7 d22_8 11 rfl rfl rfl rfl ?_
      intro T12 X12 e12
      refine Gol.icmpNo X12 hx hby d22_11 14 rfl (tlt (by decide : (1 : Int32) < (2 : Int32))).2.1 ?_
      refine Gol.fB X12 hx hby hZ hown (w 69 _ rfl) e12 (B_A0.keep K nn_A0) 15 d22_14 d22_15 18 rfl rfl rfl rfl ?_
      intro T13 X13 e13
      refine Gol.iload X13 hx hby d22_18 20 rfl rfl ?_
      refine Gol.iaload X13 hx hby hZ e13 (V_A8.keep K nn_A8) d22_20 21 rfl ⟨by decide, by decide⟩ (v := gb) rfl ?_
      refine Gol.istore X13 hx hby d22_21 23 rfl (l' := #[vr (A 0), vr r1, vr r2, vi 1, vi 1, vi gb]) rfl ?_
      refine Gol.iload X13 hx hby d22_23 25 rfl rfl ?_
      refine Gol.fB X13 hx hby hZ hown (w 46 _ rfl) e13 (B_A0.keep K nn_A0) 11 d22_25 d22_26 29 rfl rfl rfl rfl ?_
      intro T14 X14 e14
      by_cases hc29_15 : gb < (2 : Int32)
      · skip
        refine Gol.icmpNo X14 hx hby d22_29 32 rfl (tlt hc29_15).2.1 ?_
        refine Gol.fB X14 hx hby hZ hown (w 71 _ rfl) e14 (B_A0.keep K nn_A0) 16 d22_32 d22_33 36 rfl rfl rfl rfl ?_
        intro T16 X16 e16
        refine Gol.iload X16 hx hby d22_36 38 rfl rfl ?_
        refine Gol.daload X16 hx hby hZ e16 (V_A9.keep K nn_A9) d22_38 39 rfl ⟨by decide, by decide⟩ (v := (4607182418800017408 : UInt64)) rfl ?_
        refine Gol.dconst0 X16 hx hby d22_39 40 rfl (v := (0 : UInt64)) (by decide +kernel) ?_
        refine Gol.dcmp X16 hx hby d22_40 41 rfl (v := (1 : Int32)) (by decide +kernel) ?_
        refine Gol.ifNo X16 hx hby d22_41 44 rfl ((if0 _ _).trans (tlt (by decide : (0 : Int32) < (1 : Int32))).2.2.2) ?_
        refine Gol.fB X16 hx hby hZ hown (w 40 _ rfl) e16 (B_A0.keep K nn_A0) 8 d22_44 d22_45 48 rfl rfl rfl rfl ?_
        intro T17 X17 e17
        refine Gol.iload X17 hx hby d22_48 50 rfl rfl ?_
        refine Gol.iaload X17 hx hby hZ e17 (V_A2.keep K nn_A2) d22_50 51 rfl (own_in2 (hgb hc29_15)) (v := (sel gb nd0 nd1)) (own_rI (hgb hc29_15)) ?_
        refine Gol.fB X17 hx hby hZ hown (w 42 _ rfl) e17 (B_A0.keep K nn_A0) 9 d22_51 d22_52 55 rfl rfl rfl rfl ?_
        intro T18 X18 e18
        refine Gol.iload X18 hx hby d22_55 57 rfl rfl ?_
        refine Gol.iaload X18 hx hby hZ e18 (V_A3.keep K nn_A3) d22_57 58 rfl (own_in2 (hgb hc29_15)) (v := (sel gb tk0 tk1)) (own_rI (hgb hc29_15)) ?_
        by_cases hc58_19 : (sel gb tk0 tk1) < (sel gb nd0 nd1)
        · skip
          refine Gol.icmpNo X18 hx hby d22_58 61 rfl (tlt hc58_19).2.2.2 ?_
          refine Gol.aloadN X18 hx hby d22_61 62 rfl rfl rfl ?_
          refine Gol.iloadN X18 hx hby d22_62 63 rfl rfl ?_
          refine Gol.iload X18 hx hby d22_63 65 rfl rfl ?_
          refine Gol.iastore X18 hx hby hZ e18 V_r1 d22_65 66 rfl ⟨by decide, by decide⟩ 1 rfl (Nat.le_of_ble_eq_true rfl) ?_
          intro T20 h20 X20 e20 W20 A20
          have V_r1 : Arv Z h20 r1 kr1 .int (2 : Int32) [(.int ga), (.int gb)] (.int 0) := A20
          have V_r2 := V_r2.other W20 ne_r1_r2.symm
          have K := K.wr W20 (Or.inl (List.mem_of_getElem? (i := 0) rfl))
          have N20 := Fr.snoc X20 N11 g_r1
          refine Gol.aloadN X20 hx hby d22_66 67 rfl rfl rfl ?_
          refine Gol.iloadN X20 hx hby d22_67 68 rfl rfl ?_
          refine Gol.fB X20 hx hby hZ hown (w 71 _ rfl) e20 (B_A0.keep K nn_A0) 16 d22_68 d22_69 72 rfl rfl rfl rfl ?_
          intro T21 X21 e21
          refine Gol.iload X21 hx hby d22_72 74 rfl rfl ?_
          refine Gol.daload X21 hx hby hZ e21 (V_A9.keep K nn_A9) d22_74 75 rfl ⟨by decide, by decide⟩ (v := (4607182418800017408 : UInt64)) rfl ?_
          refine Gol.dastore X21 hx hby hZ e21 V_r2 d22_75 76 rfl ⟨by decide, by decide⟩ 1 rfl (Nat.le_of_ble_eq_true rfl) ?_
          intro T22 h22 X22 e22 W22 A22
          have V_r2 : Arv Z h22 r2 kr2 .double (2 : Int32) [(.double 4607182418800017408), (.double 4607182418800017408)] (.double 0) := A22
          have V_r1 := V_r1.other W22 ne_r1_r2
          have K := K.wr W22 (Or.inl (List.mem_of_getElem? (i := 1) rfl))
          have N22 := Fr.snoc X22 N20 g_r2
          refine Gol.iinc X22 hx hby d22_76 79 rfl rfl (l' := #[vr (A 0), vr r1, vr r2, vi 2, vi 1, vi gb]) rfl ?_
          refine Gol.iinc X22 hx hby d22_79 82 rfl rfl (l' := #[vr (A 0), vr r1, vr r2, vi 2, vi 2, vi gb]) rfl ?_
          refine Gol.goto X22 hx hby d22_82 5 (by decide) ?_
          refine Gol.iload X22 hx hby d22_5 7 rfl rfl ?_
          refine Gol.fB X22 hx hby hZ hown (w 36 _ rfl) e22 (B_A0.keep K nn_A0) 6 d22_7 d22_8 11 rfl rfl rfl rfl ?_
          intro T23 X23 e23
          refine Gol.icmpYes X23 hx hby d22_11 85 (by decide) (flt (by decide : ¬ ((2 : Int32) < (2 : Int32)))).2.1 ?_
          refine Gol.iloadN X23 hx hby d22_85 86 rfl rfl ?_
          exact Gol.retI X23 hx hby Bd.returns Bd.notSynchronized d22_86 e23 ⟨(2 : Int32), ga, gb, 4607182418800017408, 4607182418800017408, rfl, N22, K, ⟨_, V_r1⟩, ⟨_, V_r2⟩, Or.inr (Or.inr (Or.inr ⟨⟨hc29_4, hc58_8⟩, ⟨hc29_15, hc58_19⟩, rfl, rfl, rfl, rfl, rfl⟩))⟩ (by decide) (by decide)
        · skip
          refine Gol.icmpYes X18 hx hby d22_58 79 (by decide) (flt hc58_19).2.2.2 ?_
          refine Gol.iinc X18 hx hby d22_79 82 rfl rfl (l' := #[vr (A 0), vr r1, vr r2, vi 1, vi 2, vi gb]) rfl ?_
          refine Gol.goto X18 hx hby d22_82 5 (by decide) ?_
          refine Gol.iload X18 hx hby d22_5 7 rfl rfl ?_
          refine Gol.fB X18 hx hby hZ hown (w 36 _ rfl) e18 (B_A0.keep K nn_A0) 6 d22_7 d22_8 11 rfl rfl rfl rfl ?_
          intro T24 X24 e24
          refine Gol.icmpYes X24 hx hby d22_11 85 (by decide) (flt (by decide : ¬ ((2 : Int32) < (2 : Int32)))).2.1 ?_
          refine Gol.iloadN X24 hx hby d22_85 86 rfl rfl ?_
          exact Gol.retI X24 hx hby Bd.returns Bd.notSynchronized d22_86 e24 ⟨(1 : Int32), ga, xb, 4607182418800017408, xd, rfl, N11, K, ⟨_, V_r1⟩, ⟨_, V_r2⟩, Or.inr (Or.inl ⟨⟨hc29_4, hc58_8⟩, (fun q => hc58_19 q.2), rfl, rfl, rfl⟩)⟩ (by decide) (by decide)
      · skip
        refine Gol.icmpYes X14 hx hby d22_29 79 (by decide) (flt hc29_15).2.1 ?_
        refine Gol.iinc X14 hx hby d22_79 82 rfl rfl (l' := #[vr (A 0), vr r1, vr r2, vi 1, vi 2, vi gb]) rfl ?_
        refine Gol.goto X14 hx hby d22_82 5 (by decide) ?_
        refine Gol.iload X14 hx hby d22_5 7 rfl rfl ?_
        refine Gol.fB X14 hx hby hZ hown (w 36 _ rfl) e14 (B_A0.keep K nn_A0) 6 d22_7 d22_8 11 rfl rfl rfl rfl ?_
        intro T25 X25 e25
        refine Gol.icmpYes X25 hx hby d22_11 85 (by decide) (flt (by decide : ¬ ((2 : Int32) < (2 : Int32)))).2.1 ?_
        refine Gol.iloadN X25 hx hby d22_85 86 rfl rfl ?_
        exact Gol.retI X25 hx hby Bd.returns Bd.notSynchronized d22_86 e25 ⟨(1 : Int32), ga, xb, 4607182418800017408, xd, rfl, N11, K, ⟨_, V_r1⟩, ⟨_, V_r2⟩, Or.inr (Or.inl ⟨⟨hc29_4, hc58_8⟩, (fun q => hc29_15 q.1), rfl, rfl, rfl⟩)⟩ (by decide) (by decide)
    · skip
      refine Gol.icmpYes X7 hx hby d22_58 79 (by decide) (flt hc58_8).2.2.2 ?_
      refine Gol.iinc X7 hx hby d22_79 82 rfl rfl (l' := #[vr (A 0), vr r1, vr r2, vi 0, vi 1, vi ga]) rfl ?_
      refine Gol.goto X7 hx hby d22_82 5 (by decide) ?_
      refine Gol.iload X7 hx hby d22_5 7 rfl rfl ?_
      refine Gol.fB X7 hx hby hZ hown (w 36 _ rfl) e7 B_A0 6 d22_7 d22_8 11 rfl rfl rfl rfl ?_
      intro T26 X26 e26
      refine Gol.icmpNo X26 hx hby d22_11 14 rfl (tlt (by decide : (1 : Int32) < (2 : Int32))).2.1 ?_
      refine Gol.fB X26 hx hby hZ hown (w 69 _ rfl) e26 B_A0 15 d22_14 d22_15 18 rfl rfl rfl rfl ?_
      intro T27 X27 e27
      refine Gol.iload X27 hx hby d22_18 20 rfl rfl ?_
      refine Gol.iaload X27 hx hby hZ e27 V_A8 d22_20 21 rfl ⟨by decide, by decide⟩ (v := gb) rfl ?_
      refine Gol.istore X27 hx hby d22_21 23 rfl (l' := #[vr (A 0), vr r1, vr r2, vi 0, vi 1, vi gb]) rfl ?_
      refine Gol.iload X27 hx hby d22_23 25 rfl rfl ?_
      refine Gol.fB X27 hx hby hZ hown (w 46 _ rfl) e27 B_A0 11 d22_25 d22_26 29 rfl rfl rfl rfl ?_
      intro T28 X28 e28
      by_cases hc29_29 : gb < (2 : Int32)
      · skip
        refine Gol.icmpNo X28 hx hby d22_29 32 rfl (tlt hc29_29).2.1 ?_
        refine Gol.fB X28 hx hby hZ hown (w 71 _ rfl) e28 B_A0 16 d22_32 d22_33 36 rfl rfl rfl rfl ?_
        intro T30 X30 e30
        refine Gol.iload X30 hx hby d22_36 38 rfl rfl ?_
        refine Gol.daload X30 hx hby hZ e30 V_A9 d22_38 39 rfl ⟨by decide, by decide⟩ (v := (4607182418800017408 : UInt64)) rfl ?_
        refine Gol.dconst0 X30 hx hby d22_39 40 rfl (v := (0 : UInt64)) (by decide +kernel) ?_
        refine Gol.dcmp X30 hx hby d22_40 41 rfl (v := (1 : Int32)) (by decide +kernel) ?_
        refine Gol.ifNo X30 hx hby d22_41 44 rfl ((if0 _ _).trans (tlt (by decide : (0 : Int32) < (1 : Int32))).2.2.2) ?_
        refine Gol.fB X30 hx hby hZ hown (w 40 _ rfl) e30 B_A0 8 d22_44 d22_45 48 rfl rfl rfl rfl ?_
        intro T31 X31 e31
        refine Gol.iload X31 hx hby d22_48 50 rfl rfl ?_
        refine Gol.iaload X31 hx hby hZ e31 V_A2 d22_50 51 rfl (own_in2 (hgb hc29_29)) (v := (sel gb nd0 nd1)) (own_rI (hgb hc29_29)) ?_
        refine Gol.fB X31 hx hby hZ hown (w 42 _ rfl) e31 B_A0 9 d22_51 d22_52 55 rfl rfl rfl rfl ?_
        intro T32 X32 e32
        refine Gol.iload X32 hx hby d22_55 57 rfl rfl ?_
        refine Gol.iaload X32 hx hby hZ e32 V_A3 d22_57 58 rfl (own_in2 (hgb hc29_29)) (v := (sel gb tk0 tk1)) (own_rI (hgb hc29_29)) ?_
        by_cases hc58_33 : (sel gb tk0 tk1) < (sel gb nd0 nd1)
        · skip
          refine Gol.icmpNo X32 hx hby d22_58 61 rfl (tlt hc58_33).2.2.2 ?_
          refine Gol.aloadN X32 hx hby d22_61 62 rfl rfl rfl ?_
          refine Gol.iloadN X32 hx hby d22_62 63 rfl rfl ?_
          refine Gol.iload X32 hx hby d22_63 65 rfl rfl ?_
          refine Gol.iastore X32 hx hby hZ e32 V_r1 d22_65 66 rfl ⟨by decide, by decide⟩ 0 rfl (Nat.le_of_ble_eq_true rfl) ?_
          intro T34 h34 X34 e34 W34 A34
          have V_r1 : Arv Z h34 r1 kr1 .int (2 : Int32) [(.int gb), (.int xb)] (.int 0) := A34
          have V_r2 := V_r2.other W34 ne_r1_r2.symm
          have K := K.wr W34 (Or.inl (List.mem_of_getElem? (i := 0) rfl))
          have N34 := Fr.snoc X34 N0 g_r1
          refine Gol.aloadN X34 hx hby d22_66 67 rfl rfl rfl ?_
          refine Gol.iloadN X34 hx hby d22_67 68 rfl rfl ?_
          refine Gol.fB X34 hx hby hZ hown (w 71 _ rfl) e34 (B_A0.keep K nn_A0) 16 d22_68 d22_69 72 rfl rfl rfl rfl ?_
          intro T35 X35 e35
          refine Gol.iload X35 hx hby d22_72 74 rfl rfl ?_
          refine Gol.daload X35 hx hby hZ e35 (V_A9.keep K nn_A9) d22_74 75 rfl ⟨by decide, by decide⟩ (v := (4607182418800017408 : UInt64)) rfl ?_
          refine Gol.dastore X35 hx hby hZ e35 V_r2 d22_75 76 rfl ⟨by decide, by decide⟩ 0 rfl (Nat.le_of_ble_eq_true rfl) ?_
          intro T36 h36 X36 e36 W36 A36
          have V_r2 : Arv Z h36 r2 kr2 .double (2 : Int32) [(.double 4607182418800017408), (.double xd)] (.double 0) := A36
          have V_r1 := V_r1.other W36 ne_r1_r2
          have K := K.wr W36 (Or.inl (List.mem_of_getElem? (i := 1) rfl))
          have N36 := Fr.snoc X36 N34 g_r2
          refine Gol.iinc X36 hx hby d22_76 79 rfl rfl (l' := #[vr (A 0), vr r1, vr r2, vi 1, vi 1, vi gb]) rfl ?_
          refine Gol.iinc X36 hx hby d22_79 82 rfl rfl (l' := #[vr (A 0), vr r1, vr r2, vi 1, vi 2, vi gb]) rfl ?_
          refine Gol.goto X36 hx hby d22_82 5 (by decide) ?_
          refine Gol.iload X36 hx hby d22_5 7 rfl rfl ?_
          refine Gol.fB X36 hx hby hZ hown (w 36 _ rfl) e36 (B_A0.keep K nn_A0) 6 d22_7 d22_8 11 rfl rfl rfl rfl ?_
          intro T37 X37 e37
          refine Gol.icmpYes X37 hx hby d22_11 85 (by decide) (flt (by decide : ¬ ((2 : Int32) < (2 : Int32)))).2.1 ?_
          refine Gol.iloadN X37 hx hby d22_85 86 rfl rfl ?_
          exact Gol.retI X37 hx hby Bd.returns Bd.notSynchronized d22_86 e37 ⟨(1 : Int32), gb, xb, 4607182418800017408, xd, rfl, N36, K, ⟨_, V_r1⟩, ⟨_, V_r2⟩, Or.inr (Or.inr (Or.inl ⟨(fun q => hc58_8 q.2), ⟨hc29_29, hc58_33⟩, rfl, rfl, rfl⟩))⟩ (by decide) (by decide)
        · skip
          refine Gol.icmpYes X32 hx hby d22_58 79 (by decide) (flt hc58_33).2.2.2 ?_
          refine Gol.iinc X32 hx hby d22_79 82 rfl rfl (l' := #[vr (A 0), vr r1, vr r2, vi 0, vi 2, vi gb]) rfl ?_
          refine Gol.goto X32 hx hby d22_82 5 (by decide) ?_
          refine Gol.iload X32 hx hby d22_5 7 rfl rfl ?_
          refine Gol.fB X32 hx hby hZ hown (w 36 _ rfl) e32 B_A0 6 d22_7 d22_8 11 rfl rfl rfl rfl ?_
          intro T38 X38 e38
          refine Gol.icmpYes X38 hx hby d22_11 85 (by decide) (flt (by decide : ¬ ((2 : Int32) < (2 : Int32)))).2.1 ?_
          refine Gol.iloadN X38 hx hby d22_85 86 rfl rfl ?_
          exact Gol.retI X38 hx hby Bd.returns Bd.notSynchronized d22_86 e38 ⟨(0 : Int32), xa, xb, xc, xd, rfl, N0, K, ⟨_, V_r1⟩, ⟨_, V_r2⟩, Or.inl ⟨(fun q => hc58_8 q.2), (fun q => hc58_33 q.2), rfl⟩⟩ (by decide) (by decide)
      · skip
        refine Gol.icmpYes X28 hx hby d22_29 79 (by decide) (flt hc29_29).2.1 ?_
        refine Gol.iinc X28 hx hby d22_79 82 rfl rfl (l' := #[vr (A 0), vr r1, vr r2, vi 0, vi 2, vi gb]) rfl ?_
        refine Gol.goto X28 hx hby d22_82 5 (by decide) ?_
        refine Gol.iload X28 hx hby d22_5 7 rfl rfl ?_
        refine Gol.fB X28 hx hby hZ hown (w 36 _ rfl) e28 B_A0 6 d22_7 d22_8 11 rfl rfl rfl rfl ?_
        intro T39 X39 e39
        refine Gol.icmpYes X39 hx hby d22_11 85 (by decide) (flt (by decide : ¬ ((2 : Int32) < (2 : Int32)))).2.1 ?_
        refine Gol.iloadN X39 hx hby d22_85 86 rfl rfl ?_
        exact Gol.retI X39 hx hby Bd.returns Bd.notSynchronized d22_86 e39 ⟨(0 : Int32), xa, xb, xc, xd, rfl, N0, K, ⟨_, V_r1⟩, ⟨_, V_r2⟩, Or.inl ⟨(fun q => hc58_8 q.2), (fun q => hc29_29 q.1), rfl⟩⟩ (by decide) (by decide)
  · skip
    refine Gol.icmpYes X3 hx hby d22_29 79 (by decide) (flt hc29_4).2.1 ?_
    refine Gol.iinc X3 hx hby d22_79 82 rfl rfl (l' := #[vr (A 0), vr r1, vr r2, vi 0, vi 1, vi ga]) rfl ?_
    refine Gol.goto X3 hx hby d22_82 5 (by decide) ?_
    refine Gol.iload X3 hx hby d22_5 7 rfl rfl ?_
    refine Gol.fB X3 hx hby hZ hown (w 36 _ rfl) e3 B_A0 6 d22_7 d22_8 11 rfl rfl rfl rfl ?_
    intro T40 X40 e40
    refine Gol.icmpNo X40 hx hby d22_11 14 rfl (tlt (by decide : (1 : Int32) < (2 : Int32))).2.1 ?_
    refine Gol.fB X40 hx hby hZ hown (w 69 _ rfl) e40 B_A0 15 d22_14 d22_15 18 rfl rfl rfl rfl ?_
    intro T41 X41 e41
    refine Gol.iload X41 hx hby d22_18 20 rfl rfl ?_
    refine Gol.iaload X41 hx hby hZ e41 V_A8 d22_20 21 rfl ⟨by decide, by decide⟩ (v := gb) rfl ?_
    refine Gol.istore X41 hx hby d22_21 23 rfl (l' := #[vr (A 0), vr r1, vr r2, vi 0, vi 1, vi gb]) rfl ?_
    refine Gol.iload X41 hx hby d22_23 25 rfl rfl ?_
    refine Gol.fB X41 hx hby hZ hown (w 46 _ rfl) e41 B_A0 11 d22_25 d22_26 29 rfl rfl rfl rfl ?_
    intro T42 X42 e42
    by_cases hc29_43 : gb < (2 : Int32)
    · skip
      refine Gol.icmpNo X42 hx hby d22_29 32 rfl (tlt hc29_43).2.1 ?_
      refine Gol.fB X42 hx hby hZ hown (w 71 _ rfl) e42 B_A0 16 d22_32 d22_33 36 rfl rfl rfl rfl ?_
      intro T44 X44 e44
      refine Gol.iload X44 hx hby d22_36 38 rfl rfl ?_
      refine Gol.daload X44 hx hby hZ e44 V_A9 d22_38 39 rfl ⟨by decide, by decide⟩ (v := (4607182418800017408 : UInt64)) rfl ?_
      refine Gol.dconst0 X44 hx hby d22_39 40 rfl (v := (0 : UInt64)) (by decide +kernel) ?_
      refine Gol.dcmp X44 hx hby d22_40 41 rfl (v := (1 : Int32)) (by decide +kernel) ?_
      refine Gol.ifNo X44 hx hby d22_41 44 rfl ((if0 _ _).trans (tlt (by decide : (0 : Int32) < (1 : Int32))).2.2.2) ?_
      refine Gol.fB X44 hx hby hZ hown (w 40 _ rfl) e44 B_A0 8 d22_44 d22_45 48 rfl rfl rfl rfl ?_
      intro T45 X45 e45
      refine Gol.iload X45 hx hby d22_48 50 rfl rfl ?_
      refine Gol.iaload X45 hx hby hZ e45 V_A2 d22_50 51 rfl (own_in2 (hgb hc29_43)) (v := (sel gb nd0 nd1)) (own_rI (hgb hc29_43)) ?_
      refine Gol.fB X45 hx hby hZ hown (w 42 _ rfl) e45 B_A0 9 d22_51 d22_52 55 rfl rfl rfl rfl ?_
      intro T46 X46 e46
      refine Gol.iload X46 hx hby d22_55 57 rfl rfl ?_
      refine Gol.iaload X46 hx hby hZ e46 V_A3 d22_57 58 rfl (own_in2 (hgb hc29_43)) (v := (sel gb tk0 tk1)) (own_rI (hgb hc29_43)) ?_
      by_cases hc58_47 : (sel gb tk0 tk1) < (sel gb nd0 nd1)
      · skip
        refine Gol.icmpNo X46 hx hby d22_58 61 rfl (tlt hc58_47).2.2.2 ?_
        refine Gol.aloadN X46 hx hby d22_61 62 rfl rfl rfl ?_
        refine Gol.iloadN X46 hx hby d22_62 63 rfl rfl ?_
        refine Gol.iload X46 hx hby d22_63 65 rfl rfl ?_
        refine Gol.iastore X46 hx hby hZ e46 V_r1 d22_65 66 rfl ⟨by decide, by decide⟩ 0 rfl (Nat.le_of_ble_eq_true rfl) ?_
        intro T48 h48 X48 e48 W48 A48
        have V_r1 : Arv Z h48 r1 kr1 .int (2 : Int32) [(.int gb), (.int xb)] (.int 0) := A48
        have V_r2 := V_r2.other W48 ne_r1_r2.symm
        have K := K.wr W48 (Or.inl (List.mem_of_getElem? (i := 0) rfl))
        have N48 := Fr.snoc X48 N0 g_r1
        refine Gol.aloadN X48 hx hby d22_66 67 rfl rfl rfl ?_
        refine Gol.iloadN X48 hx hby d22_67 68 rfl rfl ?_
        refine Gol.fB X48 hx hby hZ hown (w 71 _ rfl) e48 (B_A0.keep K nn_A0) 16 d22_68 d22_69 72 rfl rfl rfl rfl ?_
        intro T49 X49 e49
        refine Gol.iload X49 hx hby d22_72 74 rfl rfl ?_
        refine Gol.daload X49 hx hby hZ e49 (V_A9.keep K nn_A9) d22_74 75 rfl ⟨by decide, by decide⟩ (v := (4607182418800017408 : UInt64)) rfl ?_
        refine Gol.dastore X49 hx hby hZ e49 V_r2 d22_75 76 rfl ⟨by decide, by decide⟩ 0 rfl (Nat.le_of_ble_eq_true rfl) ?_
        intro T50 h50 X50 e50 W50 A50
        have V_r2 : Arv Z h50 r2 kr2 .double (2 : Int32) [(.double 4607182418800017408), (.double xd)] (.double 0) := A50
        have V_r1 := V_r1.other W50 ne_r1_r2
        have K := K.wr W50 (Or.inl (List.mem_of_getElem? (i := 1) rfl))
        have N50 := Fr.snoc X50 N48 g_r2
        refine Gol.iinc X50 hx hby d22_76 79 rfl rfl (l' := #[vr (A 0), vr r1, vr r2, vi 1, vi 1, vi gb]) rfl ?_
        refine Gol.iinc X50 hx hby d22_79 82 rfl rfl (l' := #[vr (A 0), vr r1, vr r2, vi 1, vi 2, vi gb]) rfl ?_
        refine Gol.goto X50 hx hby d22_82 5 (by decide) ?_
        refine Gol.iload X50 hx hby d22_5 7 rfl rfl ?_
        refine Gol.fB X50 hx hby hZ hown (w 36 _ rfl) e50 (B_A0.keep K nn_A0) 6 d22_7 d22_8 11 rfl rfl rfl rfl ?_
        intro T51 X51 e51
        refine Gol.icmpYes X51 hx hby d22_11 85 (by decide) (flt (by decide : ¬ ((2 : Int32) < (2 : Int32)))).2.1 ?_
        refine Gol.iloadN X51 hx hby d22_85 86 rfl rfl ?_
        exact Gol.retI X51 hx hby Bd.returns Bd.notSynchronized d22_86 e51 ⟨(1 : Int32), gb, xb, 4607182418800017408, xd, rfl, N50, K, ⟨_, V_r1⟩, ⟨_, V_r2⟩, Or.inr (Or.inr (Or.inl ⟨(fun q => hc29_4 q.1), ⟨hc29_43, hc58_47⟩, rfl, rfl, rfl⟩))⟩ (by decide) (by decide)
      · skip
        refine Gol.icmpYes X46 hx hby d22_58 79 (by decide) (flt hc58_47).2.2.2 ?_
        refine Gol.iinc X46 hx hby d22_79 82 rfl rfl (l' := #[vr (A 0), vr r1, vr r2, vi 0, vi 2, vi gb]) rfl ?_
        refine Gol.goto X46 hx hby d22_82 5 (by decide) ?_
        refine Gol.iload X46 hx hby d22_5 7 rfl rfl ?_
        refine Gol.fB X46 hx hby hZ hown (w 36 _ rfl) e46 B_A0 6 d22_7 d22_8 11 rfl rfl rfl rfl ?_
        intro T52 X52 e52
        refine Gol.icmpYes X52 hx hby d22_11 85 (by decide) (flt (by decide : ¬ ((2 : Int32) < (2 : Int32)))).2.1 ?_
        refine Gol.iloadN X52 hx hby d22_85 86 rfl rfl ?_
        exact Gol.retI X52 hx hby Bd.returns Bd.notSynchronized d22_86 e52 ⟨(0 : Int32), xa, xb, xc, xd, rfl, N0, K, ⟨_, V_r1⟩, ⟨_, V_r2⟩, Or.inl ⟨(fun q => hc29_4 q.1), (fun q => hc58_47 q.2), rfl⟩⟩ (by decide) (by decide)
    · skip
      refine Gol.icmpYes X42 hx hby d22_29 79 (by decide) (flt hc29_43).2.1 ?_
      refine Gol.iinc X42 hx hby d22_79 82 rfl rfl (l' := #[vr (A 0), vr r1, vr r2, vi 0, vi 2, vi gb]) rfl ?_
      refine Gol.goto X42 hx hby d22_82 5 (by decide) ?_
      refine Gol.iload X42 hx hby d22_5 7 rfl rfl ?_
      refine Gol.fB X42 hx hby hZ hown (w 36 _ rfl) e42 B_A0 6 d22_7 d22_8 11 rfl rfl rfl rfl ?_
      intro T53 X53 e53
      refine Gol.icmpYes X53 hx hby d22_11 85 (by decide) (flt (by decide : ¬ ((2 : Int32) < (2 : Int32)))).2.1 ?_
      refine Gol.iloadN X53 hx hby d22_85 86 rfl rfl ?_
      exact Gol.retI X53 hx hby Bd.returns Bd.notSynchronized d22_86 e53 ⟨(0 : Int32), xa, xb, xc, xd, rfl, N0, K, ⟨_, V_r1⟩, ⟨_, V_r2⟩, Or.inl ⟨(fun q => hc29_4 q.1), (fun q => hc29_43 q.1), rfl⟩⟩ (by decide) (by decide)
abbrev dc10 (i : Nat) (x : Instr) (n : Nat) : Prop := decode prog_8_method_3_code i = .ok (x, n)
theorem d10_154 : dc10 154 (.aload_n 0) 1 := by decide +kernel
theorem d10_155 : dc10 155 (.iload 11) 2 := by decide +kernel
theorem d10_157 : dc10 157 (.invokevirtual 133) 3 := by decide +kernel
theorem d10_160 : dc10 160 (.dstore 12) 2 := by decide +kernel
theorem d10_162 : dc10 162 (.aload_n 0) 1 := by decide +kernel
theorem d10_163 : dc10 163 (.iload 11) 2 := by decide +kernel
theorem d10_165 : dc10 165 (.iload 10) 2 := by decide +kernel
theorem d10_167 : dc10 167 (.invokevirtual 137) 3 := by decide +kernel
theorem d10_170 : dc10 170 (.istore 14) 2 := by decide +kernel
theorem d10_172 : dc10 172 (.iload 14) 2 := by decide +kernel
theorem d10_174 : dc10 174 (.ifCond .ge 6) 3 := by decide +kernel
theorem d10_180 : dc10 180 (.dconst 0) 1 := by decide +kernel
theorem d10_181 : dc10 181 (.aload_n 0) 1 := by decide +kernel
theorem d10_182 : dc10 182 (.getfield 78) 3 := by decide +kernel
theorem d10_185 : dc10 185 (.iload 14) 2 := by decide +kernel
theorem d10_187 : dc10 187 .daload 1 := by decide +kernel
theorem d10_188 : dc10 188 (.invokestatic 141) 3 := by decide +kernel
theorem d10_191 : dc10 191 (.aload_n 0) 1 := by decide +kernel
theorem d10_192 : dc10 192 (.getfield 90) 3 := by decide +kernel
theorem d10_195 : dc10 195 (.iload 14) 2 := by decide +kernel
theorem d10_197 : dc10 197 .daload 1 := by decide +kernel
theorem d10_198 : dc10 198 .ddiv 1 := by decide +kernel
theorem d10_199 : dc10 199 (.dstore 15) 2 := by decide +kernel
theorem d10_201 : dc10 201 (.dload 15) 2 := by decide +kernel
theorem d10_203 : dc10 203 (.ldc2_w 147) 3 := by decide +kernel
theorem d10_206 : dc10 206 (.dcmp .g) 1 := by decide +kernel
theorem d10_207 : dc10 207 (.ifCond .gt 10) 3 := by decide +kernel
theorem d10_217 : dc10 217 (.iconst 0) 1 := by decide +kernel
theorem d10_218 : dc10 218 (.istore 8) 2 := by decide +kernel
theorem d10_220 : dc10 220 (.dload 6) 2 := by decide +kernel
theorem d10_222 : dc10 222 (.dload 12) 2 := by decide +kernel
theorem d10_224 : dc10 224 (.dload 15) 2 := by decide +kernel
theorem d10_226 : dc10 226 .dmul 1 := by decide +kernel
theorem d10_227 : dc10 227 .dadd 1 := by decide +kernel
theorem d10_228 : dc10 228 (.dstore 6) 2 := by decide +kernel
theorem d10_230 : dc10 230 (.aload_n 0) 1 := by decide +kernel
theorem d10_231 : dc10 231 (.iload 14) 2 := by decide +kernel
theorem d10_233 : dc10 233 (.iload 11) 2 := by decide +kernel
theorem d10_235 : dc10 235 (.dload 15) 2 := by decide +kernel
theorem d10_237 : dc10 237 (.dload 12) 2 := by decide +kernel
theorem d10_239 : dc10 239 (.invokevirtual 149) 3 := by decide +kernel
theorem d10_242 : dc10 242 (.aload_n 0) 1 := by decide +kernel
theorem d10_243 : dc10 243 .dup 1 := by decide +kernel
theorem d10_244 : dc10 244 (.getfield 153) 3 := by decide +kernel
theorem d10_247 : dc10 247 (.iconst 1) 1 := by decide +kernel
theorem d10_248 : dc10 248 .iadd 1 := by decide +kernel
theorem d10_249 : dc10 249 (.putfield 153) 3 := by decide +kernel
theorem d10_252 : dc10 252 (.aload_n 0) 1 := by decide +kernel
theorem d10_253 : dc10 253 (.getfield 153) 3 := by decide +kernel
theorem d10_256 : dc10 256 (.sipush 2000) 3 := by decide +kernel
theorem d10_259 : dc10 259 (.if_icmp .lt 13) 3 := by decide +kernel
theorem d10_272 : dc10 272 (.iinc 9 1) 3 := by decide +kernel
theorem d10_275 : dc10 275 (.goto (-204)) 3 := by decide +kernel
set_option maxRecDepth 65536 in
set_option maxHeartbeats 40000000 in
theorem own_turn {l : Launch} {Z : State} {a0 : Array Value} (hw : TW a0 Z) {A : Nat → Addr} {pp cc nx wk ps op sc it jt xx c nd0 nd1 tk0 tk1 dc0 dc1 x0 x1 y0 y1 ga gb : Int32} {M0 M1 Ob : Int64} {ob : UInt64} {za zb zc zd : Value} {u12 u13 u14 u15 u16 : Slot} {h0 : Heap} {n0 : Nat} (Zs : n0 ≤ h0.size) (D : DisA A) (G : FreA A n0) (B_A0 : FL Z h0 (A 0) (rxv A pp cc nx wk ps (3 : Int64) op)) (E_A0 : Exa Z h0 (A 0) "com/example/quorumstone/quorumstone/check/Relaxation") (P2 : Vv Z h0 (A 2) .int (2 : Int32) [(.int nd0), (.int nd1)] (.int 0)) (P3 : Vv Z h0 (A 3) .int (2 : Int32) [(.int tk0), (.int tk1)] (.int 0)) (P5 : Vv Z h0 (A 5) .int (3 : Int32) [(.int 0), (.int 1), (.int 2)] (.int 0)) (P6 : Vv Z h0 (A 6) .int (2 : Int32) [(.int dc0), (.int dc1)] (.int 0)) (P7 : Vv Z h0 (A 7) .int (6 : Int32) [(.int x0), (.int x1), (.int (-1)), (.int (-1)), (.int y0), (.int y1)] (.int 0)) (P8 : Vv Z h0 (A 8) .int (2 : Int32) [(.int ga), (.int gb)] (.int 0)) (P9 : Vv Z h0 (A 9) .double (2 : Int32) [(.double 4607182418800017408), (.double 4607182418800017408)] (.double 0)) (P10 : Vv Z h0 (A 10) (.array .double) (2 : Int32) [(.ref (A 11)), (.ref (A 12))] .null) (P11 : Vv Z h0 (A 11) .double (2 : Int32) [(.double 4607182418800017408), (.double 0)] (.double 0)) (P12 : Vv Z h0 (A 12) .double (2 : Int32) [(.double 0), (.double 4607182418800017408)] (.double 0)) (P13 : Vv Z h0 (A 13) .double (2 : Int32) [za, zb] (.double 0)) (P14 : Vv Z h0 (A 14) .double (2 : Int32) [(.double (FP.l2d M0)), (.double (FP.l2d M1))] (.double 0)) (P15 : Vv Z h0 (A 15) .double (2 : Int32) [zc, zd] (.double 0)) (hob : ob = FP.l2d Ob) (hjt : it + (1 : Int32) = jt) (hOb : B53 Ob) (hxx : B01 xx) (hdc0 : B01 dc0) (hdc1 : B01 dc1) (hcl : sel xx dc0 dc1 = c) (hc01 : B01 c) (hg : (c = 0 → ga = 4) ∧ (c = 1 → gb = 5)) (hm : sel c M0 M1 = 0) (hM0b : B53 M0) (hM1b : B53 M1) (hpx : 0 < (prf xx nd0 nd1 tk0 tk1).toInt) (hps : ps + (1 : Int32) < 2000) (hu : (u12 = .unset ∧ u13 = .unset ∧ u14 = .unset ∧ u15 = .unset ∧ u16 = .unset) ∨ (∃ (da db : UInt64) (ia : Int32), u12 = vd da ∧ u13 = .second ∧ u14 = vi ia ∧ u15 = vd db ∧ u16 = .second)) {p : Program} {ev : Env} {s : State} {m : MethodId} {args : Array Value} {below : List Frame} {meth : Method} {c' : Code} {T : State} {locs : List Loc} {Fe : Outcome → State → List Loc → Nat → Nat → Prop} {Qf : Option Value → Heap → List Loc → Prop} {kc ks : Nat} (X0 : Stand p l ev (rmm 4 0 0 130) s m args below meth c' T locs 0 0) (hx : p.tables.exec = Jvm.exec) (hby : c'.code = prog_8_method_3_code) (hZ : Z.Warmed39 s.vm) (hown : s.vm.findClass "com/example/quorumstone/quorumstone/check/Relaxation" = some m.cls) (hml : c'.maxLocals = 17) (eh0 : T.heap = h0) (N0 : Fr n0 locs)
    (k : ∀ (T' : State) (lo : List Loc) (h' : Heap) (xp xq yp yq gp gq : Int32) (Mp Mq Oq : Int64) (zp zq zr zs : Value), Stand p l ev (rmm 4 0 0 130) s m args below meth c' T' lo 0 0 → T'.heap = h' → Fr n0 lo → Keep h0 h' [(A 0), (A 7), (A 8), (A 9), (A 11), (A 12), (A 13), (A 14), (A 15)] → FL Z h' (A 0) (rxv A pp cc nx wk (ps + (1 : Int32)) (3 : Int64) op) → Vv Z h' (A 7) .int (6 : Int32) [(.int xp), (.int xq), (.int (-1)), (.int (-1)), (.int yp), (.int yq)] (.int 0) → Vv Z h' (A 8) .int (2 : Int32) [(.int gp), (.int gq)] (.int 0) → Vv Z h' (A 9) .double (2 : Int32) [(.double 4607182418800017408), (.double 4607182418800017408)] (.double 0) → Vv Z h' (A 11) .double (2 : Int32) [(.double 4607182418800017408), (.double 0)] (.double 0) → Vv Z h' (A 12) .double (2 : Int32) [(.double 0), (.double 4607182418800017408)] (.double 0) → Vv Z h' (A 13) .double (2 : Int32) [zp, zq] (.double 0) → Vv Z h' (A 14) .double (2 : Int32) [(.double (FP.l2d Mp)), (.double (FP.l2d Mq))] (.double 0) → Vv Z h' (A 15) .double (2 : Int32) [zr, zs] (.double 0) → xp = sel xx c x0 → xq = sel xx x1 c → gp = sel c xx ga → gq = sel c gb xx → Mp = sel c (prf xx nd0 nd1 tk0 tk1) M0 → Mq = sel c M1 (prf xx nd0 nd1 tk0 tk1) → Oq = Ob + (prf xx nd0 nd1 tk0 tk1) → GolF p ev below Fe Qf kc ks T' m 71 #[vr (A 0), vi sc, vj 3, ss, vd 4746794007244308480, ss, vd (FP.l2d Oq), ss, vi 0, vi jt, vi 0, vi xx, vd (FP.l2d (prf xx nd0 nd1 tk0 tk1)), ss, vi c, vd 4607182418800017408, ss] []) : GolF p ev below Fe Qf kc ks T m 154 #[vr (A 0), vi sc, vj 3, ss, vd 4746794007244308480, ss, vd ob, ss, vi 0, vi it, vi 0, vi xx, u12, u13, u14, u15, u16] [] := by
  subst hob hjt
  have w := fun (i : Nat) (d : Jvm.Cond) (q : tables_1[i]? = some d) => hw d (List.mem_of_getElem? q)
  obtain ⟨k_A2, V_A2⟩ := P2
  obtain ⟨k_A3, V_A3⟩ := P3
  obtain ⟨k_A5, V_A5⟩ := P5
  obtain ⟨k_A6, V_A6⟩ := P6
  obtain ⟨k_A7, V_A7⟩ := P7
  obtain ⟨k_A8, V_A8⟩ := P8
  obtain ⟨k_A9, V_A9⟩ := P9
  obtain ⟨k_A10, V_A10⟩ := P10
  obtain ⟨k_A11, V_A11⟩ := P11
  obtain ⟨k_A12, V_A12⟩ := P12
  obtain ⟨k_A13, V_A13⟩ := P13
  obtain ⟨k_A14, V_A14⟩ := P14
  obtain ⟨k_A15, V_A15⟩ := P15
  have nn_A2 : (A 2) ∉ [(A 0), (A 7), (A 8), (A 9), (A 11), (A 12), (A 13), (A 14), (A 15)] := (nnA D 2 [0, 7, 8, 9, 11, 12, 13, 14, 15] rfl)
  have nn_A3 : (A 3) ∉ [(A 0), (A 7), (A 8), (A 9), (A 11), (A 12), (A 13), (A 14), (A 15)] := (nnA D 3 [0, 7, 8, 9, 11, 12, 13, 14, 15] rfl)
  have nn_A10 : (A 10) ∉ [(A 0), (A 7), (A 8), (A 9), (A 11), (A 12), (A 13), (A 14), (A 15)] := (nnA D 10 [0, 7, 8, 9, 11, 12, 13, 14, 15] rfl)
  have LA := own_LA hw
  have K := Keep.refl h0 [(A 0), (A 7), (A 8), (A 9), (A 11), (A 12), (A 13), (A 14), (A 15)]
  show GolF _ _ _ _ _ _ _ T m 154 #[vr (A 0), vi sc, vj 3, ss, vd 4746794007244308480, ss, vd (FP.l2d Ob), ss, vi 0, vi it, vi 0, vi xx, u12, u13, u14, u15, u16] []
  rcases hc01 with rfl | rfl
  · skip
    obtain rfl : ga = 4 := hg.1 rfl
    obtain rfl : M0 = 0 := own_sel0.symm.trans hm
    rw [l2d_zero] at V_A14
    show GolF _ _ _ _ _ _ _ T m 154 #[vr (A 0), vi sc, vj 3, ss, vd 4746794007244308480, ss, vd (FP.l2d Ob), ss, vi 0, vi it, vi 0, vi xx, u12, u13, u14, u15, u16] []
    refine Gol.aloadN X0 hx hby d10_154 155 rfl rfl rfl ?_
    refine Gol.iload X0 hx hby d10_155 157 rfl rfl ?_
    refine Gol.callQ X0 hx hby hZ hown (z := zM0) 0 [(.int xx)] (a := (A 0)) (w 142 _ rfl) (w 143 _ rfl) (w 101 _ rfl) rfl (w 144 _ rfl) (w 10 _ rfl) (w 145 _ rfl) (by decide) E_A0 (rmRed l Z a0 hw [] xx A pp cc nx wk ps (3 : Int64) op nd0 nd1 tk0 tk1 dc0 dc1 0 (FP.l2d M1) h0 n0 Zs D G B_A0 E_A0 ⟨_, V_A2⟩ ⟨_, V_A3⟩ ⟨_, V_A5⟩ ⟨_, V_A6⟩ ⟨_, V_A14⟩ hxx hdc0 hdc1 (by rw [hcl]; exact own_sel0)) (by decide) (by decide) eh0 (by rw [hml]; rfl) (rest := []) (Nat.le_of_eq rfl) (by decide) (by decide) (lenOf pd_3 rfl) rfl d10_157 160 rfl ?_
    intro T1 v1 L1 X1 hQ1
    obtain ⟨rfl, Nq1, eq1⟩ := hQ1
    have N1 := Fr.app N0 Nq1
    show GolF _ _ _ _ _ _ _ T1 m 160 #[vr (A 0), vi sc, vj 3, ss, vd 4746794007244308480, ss, vd (FP.l2d Ob), ss, vi 0, vi it, vi 0, vi xx, u12, u13, u14, u15, u16] [(.double (FP.l2d (prf xx nd0 nd1 tk0 tk1)))]
    refine Gol.dstore X1 hx hby d10_160 162 rfl (l' := #[vr (A 0), vi sc, vj 3, ss, vd 4746794007244308480, ss, vd (FP.l2d Ob), ss, vi 0, vi it, vi 0, vi xx, vd (FP.l2d (prf xx nd0 nd1 tk0 tk1)), ss, u14, u15, u16]) (by rcases hu with ⟨rfl, rfl, rfl, rfl, rfl⟩ | ⟨da, db, ia, rfl, rfl, rfl, rfl, rfl⟩ <;> rfl) ?_
    refine Gol.aloadN X1 hx hby d10_162 163 rfl rfl rfl ?_
    refine Gol.iload X1 hx hby d10_163 165 rfl rfl ?_
    refine Gol.iload X1 hx hby d10_165 167 rfl rfl ?_
    refine Gol.callQ X1 hx hby hZ hown (z := zM0) 0 [(.int xx), (.int 0)] (a := (A 0)) (w 147 _ rfl) (w 148 _ rfl) (w 101 _ rfl) rfl (w 149 _ rfl) (w 10 _ rfl) (w 150 _ rfl) (by decide) E_A0 (rmLea0 l Z a0 hw [] xx A pp cc nx wk ps (3 : Int64) op dc0 dc1 zc zd h0 n0 Zs D G B_A0 E_A0 ⟨_, V_A5⟩ ⟨_, V_A6⟩ ⟨_, V_A9⟩ ⟨_, V_A10⟩ ⟨_, V_A11⟩ ⟨_, V_A12⟩ ⟨_, V_A15⟩ hxx hcl) (by decide) (by decide) eq1 (by rw [hml]; rfl) (rest := []) (Nat.le_of_eq rfl) (by decide) (by decide) (lenOf pd_8 rfl) rfl d10_167 170 rfl ?_
    intro T2 v2 L2 X2 hQ2
    obtain ⟨rfl, Nq2, Kq2, ⟨k2_A15, V_A15⟩⟩ := hQ2
    have N2 := Fr.app N1 Nq2
    have E_A0 := E_A0.keep Kq2
    have B_A0 := B_A0.keep Kq2 (nnA D 0 [15] rfl)
    have V_A7 := V_A7.keep Kq2 (nnA D 7 [15] rfl)
    have V_A8 := V_A8.keep Kq2 (nnA D 8 [15] rfl)
    have V_A9 := V_A9.keep Kq2 (nnA D 9 [15] rfl)
    have V_A11 := V_A11.keep Kq2 (nnA D 11 [15] rfl)
    have V_A12 := V_A12.keep Kq2 (nnA D 12 [15] rfl)
    have V_A13 := V_A13.keep Kq2 (nnA D 13 [15] rfl)
    have V_A14 := V_A14.keep Kq2 (nnA D 14 [15] rfl)
    have K := K.trans Kq2 (allS (Or.inl (List.mem_of_getElem? (i := 8) rfl)) all0)
    have Zs := Nat.le_trans Zs Kq2.1
    show GolF _ _ _ _ _ _ _ T2 m 170 #[vr (A 0), vi sc, vj 3, ss, vd 4746794007244308480, ss, vd (FP.l2d Ob), ss, vi 0, vi it, vi 0, vi xx, vd (FP.l2d (prf xx nd0 nd1 tk0 tk1)), ss, u14, u15, u16] [(.int 0)]
    refine Gol.istore X2 hx hby d10_170 172 rfl (l' := #[vr (A 0), vi sc, vj 3, ss, vd 4746794007244308480, ss, vd (FP.l2d Ob), ss, vi 0, vi it, vi 0, vi xx, vd (FP.l2d (prf xx nd0 nd1 tk0 tk1)), ss, vi 0, u15, u16]) (by rcases hu with ⟨rfl, rfl, rfl, rfl, rfl⟩ | ⟨da, db, ia, rfl, rfl, rfl, rfl, rfl⟩ <;> rfl) ?_
    refine Gol.iload X2 hx hby d10_172 174 rfl rfl ?_
    refine Gol.ifYes X2 hx hby d10_174 180 (by decide) ((if0 _ _).trans (flt (by decide : ¬ ((0 : Int32) < (0 : Int32)))).2.1) ?_
    refine Gol.dconst0 X2 hx hby d10_180 181 rfl (v := (0 : UInt64)) (by decide +kernel) ?_
    refine Gol.fB X2 hx hby hZ hown (w 71 _ rfl) rfl B_A0 16 d10_181 d10_182 185 rfl rfl rfl rfl ?_
    intro T3 X3 e3
    refine Gol.iload X3 hx hby d10_185 187 rfl rfl ?_
    refine Gol.daload X3 hx hby hZ e3 V_A9 d10_187 188 rfl ⟨by decide, by decide⟩ (v := (4607182418800017408 : UInt64)) rfl ?_
    refine Gol.maxD X3 hx hby hZ hown (w 120 _ rfl) (w 121 _ rfl) (w 3 _ rfl) (w 122 _ rfl) e3 0 d10_188 191 rfl (by rw [hml]; rfl) (Nat.le_of_eq rfl) (by decide) (by decide) (by decide) (by decide) (own_nn (by decide)) (own_nn (by decide)) (v := (4607182418800017408 : UInt64)) (by decide +kernel) ?_
    intro T4 X4 e4
    refine Gol.fB X4 hx hby hZ hown (w 79 _ rfl) e4 B_A0 20 d10_191 d10_192 195 rfl rfl rfl rfl ?_
    intro T5 X5 e5
    refine Gol.iload X5 hx hby d10_195 197 rfl rfl ?_
    refine Gol.daload X5 hx hby hZ e5 V_A15 d10_197 198 rfl ⟨by decide, by decide⟩ (v := (4607182418800017408 : UInt64)) rfl ?_
    refine Gol.ddiv X5 hx hby d10_198 199 rfl (v := (4607182418800017408 : UInt64)) (own_nn (by decide)) (by decide +kernel) ?_
    refine Gol.dstore X5 hx hby d10_199 201 rfl (l' := #[vr (A 0), vi sc, vj 3, ss, vd 4746794007244308480, ss, vd (FP.l2d Ob), ss, vi 0, vi it, vi 0, vi xx, vd (FP.l2d (prf xx nd0 nd1 tk0 tk1)), ss, vi 0, vd 4607182418800017408, ss]) (by rcases hu with ⟨rfl, rfl, rfl, rfl, rfl⟩ | ⟨da, db, ia, rfl, rfl, rfl, rfl, rfl⟩ <;> rfl) ?_
    refine Gol.dload X5 hx hby d10_201 203 rfl rfl ?_
    refine Gol.ldc2Double X5 hx hby hZ hown d10_203 206 rfl (w 131 _ rfl) ?_
    refine Gol.dcmp X5 hx hby d10_206 207 rfl (v := (1 : Int32)) (by decide +kernel) ?_
    refine Gol.ifYes X5 hx hby d10_207 217 (by decide) ((if0 _ _).trans (tlt (by decide : (0 : Int32) < (1 : Int32))).2.2.1) ?_
    refine Gol.iconst X5 hx hby d10_217 218 rfl (z := (0 : Int32)) rfl ?_
    refine Gol.istore X5 hx hby d10_218 220 rfl (l' := #[vr (A 0), vi sc, vj 3, ss, vd 4746794007244308480, ss, vd (FP.l2d Ob), ss, vi 0, vi it, vi 0, vi xx, vd (FP.l2d (prf xx nd0 nd1 tk0 tk1)), ss, vi 0, vd 4607182418800017408, ss]) rfl ?_
    refine Gol.dload X5 hx hby d10_220 222 rfl rfl ?_
    refine Gol.dload X5 hx hby d10_222 224 rfl rfl ?_
    refine Gol.dload X5 hx hby d10_224 226 rfl rfl ?_
    refine Gol.dmul X5 hx hby d10_226 227 rfl (v := (FP.l2d (prf xx nd0 nd1 tk0 tk1))) own_fin (own_mul1 (own_b53 _) hpx) ?_
    refine Gol.dadd X5 hx hby d10_227 228 rfl (v := (FP.l2d (Ob + (prf xx nd0 nd1 tk0 tk1)))) own_fin (dadd_w hOb (own_b53 _)) ?_
    refine Gol.dstore X5 hx hby d10_228 230 rfl (l' := #[vr (A 0), vi sc, vj 3, ss, vd 4746794007244308480, ss, vd (FP.l2d (Ob + (prf xx nd0 nd1 tk0 tk1))), ss, vi 0, vi it, vi 0, vi xx, vd (FP.l2d (prf xx nd0 nd1 tk0 tk1)), ss, vi 0, vd 4607182418800017408, ss]) rfl ?_
    refine Gol.aloadN X5 hx hby d10_230 231 rfl rfl rfl ?_
    refine Gol.iload X5 hx hby d10_231 233 rfl rfl ?_
    refine Gol.iload X5 hx hby d10_233 235 rfl rfl ?_
    refine Gol.dload X5 hx hby d10_235 237 rfl rfl ?_
    refine Gol.dload X5 hx hby d10_237 239 rfl rfl ?_
    refine Gol.callQ X5 hx hby hZ hown (z := zM0) 0 [(.int 0), (.int xx), (.double 4607182418800017408), (.double (FP.l2d (prf xx nd0 nd1 tk0 tk1)))] (a := (A 0)) (w 152 _ rfl) (w 153 _ rfl) (w 101 _ rfl) rfl (w 154 _ rfl) (w 10 _ rfl) (w 155 _ rfl) (by decide) E_A0 (rmPiv0 l Z a0 hw [] xx A pp cc nx wk ps (3 : Int64) op nd0 nd1 tk0 tk1 x0 x1 y0 y1 (.int gb) za zb M1 (prf xx nd0 nd1 tk0 tk1) T2.heap n0 Zs D G B_A0 E_A0 ⟨_, (V_A2.keep K nn_A2)⟩ ⟨_, (V_A3.keep K nn_A3)⟩ ⟨_, V_A7⟩ ⟨_, V_A8⟩ ⟨_, V_A9⟩ ⟨_, (V_A10.keep K nn_A10)⟩ ⟨_, V_A11⟩ ⟨_, V_A12⟩ ⟨_, V_A13⟩ ⟨_, V_A14⟩ ⟨_, V_A15⟩ hxx (own_b53 _) hpx hM1b) (by decide) (by decide) e5 (by rw [hml]; rfl) (rest := []) (Nat.le_of_eq rfl) (by decide) (by decide) (lenOf pd_9 rfl) rfl d10_239 242 rfl ?_
    intro T6 v6 L6 X6 hQ6
    obtain ⟨rfl, Nq6, Kq6, ⟨k6_A7, V_A7⟩, ⟨k6_A8, V_A8⟩, ⟨k6_A9, V_A9⟩, ⟨k6_A11, V_A11⟩, ⟨k6_A13, V_A13⟩, ⟨k6_A14, V_A14⟩⟩ := hQ6
    have N6 := Fr.app N2 Nq6
    have E_A0 := E_A0.keep Kq6
    have B_A0 := B_A0.keep Kq6 (nnA D 0 [7, 8, 9, 11, 13, 14] rfl)
    have V_A12 := V_A12.keep Kq6 (nnA D 12 [7, 8, 9, 11, 13, 14] rfl)
    have V_A15 := V_A15.keep Kq6 (nnA D 15 [7, 8, 9, 11, 13, 14] rfl)
    have K := K.trans Kq6 (allS (Or.inl (List.mem_of_getElem? (i := 1) rfl)) (allS (Or.inl (List.mem_of_getElem? (i := 2) rfl)) (allS (Or.inl (List.mem_of_getElem? (i := 3) rfl)) (allS (Or.inl (List.mem_of_getElem? (i := 4) rfl)) (allS (Or.inl (List.mem_of_getElem? (i := 6) rfl)) (allS (Or.inl (List.mem_of_getElem? (i := 7) rfl)) all0))))))
    show GolF _ _ _ _ _ _ _ T6 m 242 #[vr (A 0), vi sc, vj 3, ss, vd 4746794007244308480, ss, vd (FP.l2d (Ob + (prf xx nd0 nd1 tk0 tk1))), ss, vi 0, vi it, vi 0, vi xx, vd (FP.l2d (prf xx nd0 nd1 tk0 tk1)), ss, vi 0, vd 4607182418800017408, ss] []
    refine Gol.aloadN X6 hx hby d10_242 243 rfl rfl rfl ?_
    refine Gol.dup X6 hx hby d10_243 244 rfl rfl ?_
    refine Gol.getF X6 hx hby hZ hown (host := "") (Or.inl (w 94 _ rfl)) Via.refl rfl (B_A0 22 _ _ _ rfl rfl) d10_244 247 rfl ?_
    intro T7 X7 e7
    refine Gol.iconst X7 hx hby d10_247 248 rfl (z := (1 : Int32)) rfl ?_
    refine Gol.iadd X7 hx hby d10_248 249 rfl rfl ?_
    refine Gol.putF X7 hx hby hZ hown (host := "") (Or.inl (w 94 _ rfl)) Via.refl e7 (B_A0 22 _ _ _ rfl rfl) E_A0 (Or.inl (w 95 _ rfl)) (w 9 _ rfl) (ty := .int) (by decide) rfl rfl d10_249 252 rfl ?_
    intro T8 h8 X8 e8 W8
    have V_A12 := V_A12.other W8 (D 12 0 rfl)
    have V_A15 := V_A15.other W8 (D 15 0 rfl)
    have V_A7 := V_A7.other W8 (D 7 0 rfl)
    have V_A8 := V_A8.other W8 (D 8 0 rfl)
    have V_A9 := V_A9.other W8 (D 9 0 rfl)
    have V_A11 := V_A11.other W8 (D 11 0 rfl)
    have V_A13 := V_A13.other W8 (D 13 0 rfl)
    have V_A14 := V_A14.other W8 (D 14 0 rfl)
    have K := K.wr W8 (Or.inl (List.mem_of_getElem? (i := 0) rfl))
    have B_A0 : FL Z h8 (A 0) (rxv A pp cc nx wk (ps + (1 : Int32)) (3 : Int64) op) := B_A0.put LA (i0 := 22) rfl W8
    have N8 := Fr.snoc X8 N6 (G 0 rfl)
    refine Gol.fB X8 hx hby hZ hown (w 94 _ rfl) e8 B_A0 22 d10_252 d10_253 256 rfl rfl rfl rfl ?_
    intro T9 X9 e9
    refine Gol.sipush X9 hx hby d10_256 259 rfl (z := (2000 : Int32)) rfl ?_
    refine Gol.icmpYes X9 hx hby d10_259 272 (by decide) (tlt hps).1 ?_
    refine Gol.iinc X9 hx hby d10_272 275 rfl rfl (l' := #[vr (A 0), vi sc, vj 3, ss, vd 4746794007244308480, ss, vd (FP.l2d (Ob + (prf xx nd0 nd1 tk0 tk1))), ss, vi 0, vi (it + (1 : Int32)), vi 0, vi xx, vd (FP.l2d (prf xx nd0 nd1 tk0 tk1)), ss, vi 0, vd 4607182418800017408, ss]) rfl ?_
    refine Gol.goto X9 hx hby d10_275 71 (by decide) ?_
    exact k _ _ _ (sel xx (0 : Int32) x0) (sel xx x1 (0 : Int32)) (-1) y1 xx gb (prf xx nd0 nd1 tk0 tk1) M1 (Ob + (prf xx nd0 nd1 tk0 tk1)) (.double (FP.l2d (prf xx nd0 nd1 tk0 tk1))) zb (.double 4607182418800017408) (.double 0) X9 e9 N8 K B_A0 ⟨_, V_A7⟩ ⟨_, V_A8⟩ ⟨_, V_A9⟩ ⟨_, V_A11⟩ ⟨_, V_A12⟩ ⟨_, V_A13⟩ ⟨_, V_A14⟩ ⟨_, V_A15⟩ rfl rfl own_sel0.symm own_sel0.symm own_sel0.symm own_sel0.symm rfl
  · skip
    obtain rfl : gb = 5 := hg.2 rfl
    obtain rfl : M1 = 0 := own_sel1.symm.trans hm
    rw [l2d_zero] at V_A14
    show GolF _ _ _ _ _ _ _ T m 154 #[vr (A 0), vi sc, vj 3, ss, vd 4746794007244308480, ss, vd (FP.l2d Ob), ss, vi 0, vi it, vi 0, vi xx, u12, u13, u14, u15, u16] []
    refine Gol.aloadN X0 hx hby d10_154 155 rfl rfl rfl ?_
    refine Gol.iload X0 hx hby d10_155 157 rfl rfl ?_
    refine Gol.callQ X0 hx hby hZ hown (z := zM0) 0 [(.int xx)] (a := (A 0)) (w 142 _ rfl) (w 143 _ rfl) (w 101 _ rfl) rfl (w 144 _ rfl) (w 10 _ rfl) (w 145 _ rfl) (by decide) E_A0 (rmRed l Z a0 hw [] xx A pp cc nx wk ps (3 : Int64) op nd0 nd1 tk0 tk1 dc0 dc1 (FP.l2d M0) 0 h0 n0 Zs D G B_A0 E_A0 ⟨_, V_A2⟩ ⟨_, V_A3⟩ ⟨_, V_A5⟩ ⟨_, V_A6⟩ ⟨_, V_A14⟩ hxx hdc0 hdc1 (by rw [hcl]; exact own_sel1)) (by decide) (by decide) eh0 (by rw [hml]; rfl) (rest := []) (Nat.le_of_eq rfl) (by decide) (by decide) (lenOf pd_3 rfl) rfl d10_157 160 rfl ?_
    intro T10 v10 L10 X10 hQ10
    obtain ⟨rfl, Nq10, eq10⟩ := hQ10
    have N10 := Fr.app N0 Nq10
    show GolF _ _ _ _ _ _ _ T10 m 160 #[vr (A 0), vi sc, vj 3, ss, vd 4746794007244308480, ss, vd (FP.l2d Ob), ss, vi 0, vi it, vi 0, vi xx, u12, u13, u14, u15, u16] [(.double (FP.l2d (prf xx nd0 nd1 tk0 tk1)))]
    refine Gol.dstore X10 hx hby d10_160 162 rfl (l' := #[vr (A 0), vi sc, vj 3, ss, vd 4746794007244308480, ss, vd (FP.l2d Ob), ss, vi 0, vi it, vi 0, vi xx, vd (FP.l2d (prf xx nd0 nd1 tk0 tk1)), ss, u14, u15, u16]) (by rcases hu with ⟨rfl, rfl, rfl, rfl, rfl⟩ | ⟨da, db, ia, rfl, rfl, rfl, rfl, rfl⟩ <;> rfl) ?_
    refine Gol.aloadN X10 hx hby d10_162 163 rfl rfl rfl ?_
    refine Gol.iload X10 hx hby d10_163 165 rfl rfl ?_
    refine Gol.iload X10 hx hby d10_165 167 rfl rfl ?_
    refine Gol.callQ X10 hx hby hZ hown (z := zM0) 0 [(.int xx), (.int 0)] (a := (A 0)) (w 147 _ rfl) (w 148 _ rfl) (w 101 _ rfl) rfl (w 149 _ rfl) (w 10 _ rfl) (w 150 _ rfl) (by decide) E_A0 (rmLea1 l Z a0 hw [] xx A pp cc nx wk ps (3 : Int64) op dc0 dc1 zc zd h0 n0 Zs D G B_A0 E_A0 ⟨_, V_A5⟩ ⟨_, V_A6⟩ ⟨_, V_A9⟩ ⟨_, V_A10⟩ ⟨_, V_A11⟩ ⟨_, V_A12⟩ ⟨_, V_A15⟩ hxx hcl) (by decide) (by decide) eq10 (by rw [hml]; rfl) (rest := []) (Nat.le_of_eq rfl) (by decide) (by decide) (lenOf pd_8 rfl) rfl d10_167 170 rfl ?_
    intro T11 v11 L11 X11 hQ11
    obtain ⟨rfl, Nq11, Kq11, ⟨k11_A15, V_A15⟩⟩ := hQ11
    have N11 := Fr.app N10 Nq11
    have E_A0 := E_A0.keep Kq11
    have B_A0 := B_A0.keep Kq11 (nnA D 0 [15] rfl)
    have V_A7 := V_A7.keep Kq11 (nnA D 7 [15] rfl)
    have V_A8 := V_A8.keep Kq11 (nnA D 8 [15] rfl)
    have V_A9 := V_A9.keep Kq11 (nnA D 9 [15] rfl)
    have V_A11 := V_A11.keep Kq11 (nnA D 11 [15] rfl)
    have V_A12 := V_A12.keep Kq11 (nnA D 12 [15] rfl)
    have V_A13 := V_A13.keep Kq11 (nnA D 13 [15] rfl)
    have V_A14 := V_A14.keep Kq11 (nnA D 14 [15] rfl)
    have K := K.trans Kq11 (allS (Or.inl (List.mem_of_getElem? (i := 8) rfl)) all0)
    have Zs := Nat.le_trans Zs Kq11.1
    show GolF _ _ _ _ _ _ _ T11 m 170 #[vr (A 0), vi sc, vj 3, ss, vd 4746794007244308480, ss, vd (FP.l2d Ob), ss, vi 0, vi it, vi 0, vi xx, vd (FP.l2d (prf xx nd0 nd1 tk0 tk1)), ss, u14, u15, u16] [(.int 1)]
    refine Gol.istore X11 hx hby d10_170 172 rfl (l' := #[vr (A 0), vi sc, vj 3, ss, vd 4746794007244308480, ss, vd (FP.l2d Ob), ss, vi 0, vi it, vi 0, vi xx, vd (FP.l2d (prf xx nd0 nd1 tk0 tk1)), ss, vi 1, u15, u16]) (by rcases hu with ⟨rfl, rfl, rfl, rfl, rfl⟩ | ⟨da, db, ia, rfl, rfl, rfl, rfl, rfl⟩ <;> rfl) ?_
    refine Gol.iload X11 hx hby d10_172 174 rfl rfl ?_
    refine Gol.ifYes X11 hx hby d10_174 180 (by decide) ((if0 _ _).trans (flt (by decide : ¬ ((1 : Int32) < (0 : Int32)))).2.1) ?_
    refine Gol.dconst0 X11 hx hby d10_180 181 rfl (v := (0 : UInt64)) (by decide +kernel) ?_
    refine Gol.fB X11 hx hby hZ hown (w 71 _ rfl) rfl B_A0 16 d10_181 d10_182 185 rfl rfl rfl rfl ?_
    intro T12 X12 e12
    refine Gol.iload X12 hx hby d10_185 187 rfl rfl ?_
    refine Gol.daload X12 hx hby hZ e12 V_A9 d10_187 188 rfl ⟨by decide, by decide⟩ (v := (4607182418800017408 : UInt64)) rfl ?_
    refine Gol.maxD X12 hx hby hZ hown (w 120 _ rfl) (w 121 _ rfl) (w 3 _ rfl) (w 122 _ rfl) e12 0 d10_188 191 rfl (by rw [hml]; rfl) (Nat.le_of_eq rfl) (by decide) (by decide) (by decide) (by decide) (own_nn (by decide)) (own_nn (by decide)) (v := (4607182418800017408 : UInt64)) (by decide +kernel) ?_
    intro T13 X13 e13
    refine Gol.fB X13 hx hby hZ hown (w 79 _ rfl) e13 B_A0 20 d10_191 d10_192 195 rfl rfl rfl rfl ?_
    intro T14 X14 e14
    refine Gol.iload X14 hx hby d10_195 197 rfl rfl ?_
    refine Gol.daload X14 hx hby hZ e14 V_A15 d10_197 198 rfl ⟨by decide, by decide⟩ (v := (4607182418800017408 : UInt64)) rfl ?_
    refine Gol.ddiv X14 hx hby d10_198 199 rfl (v := (4607182418800017408 : UInt64)) (own_nn (by decide)) (by decide +kernel) ?_
    refine Gol.dstore X14 hx hby d10_199 201 rfl (l' := #[vr (A 0), vi sc, vj 3, ss, vd 4746794007244308480, ss, vd (FP.l2d Ob), ss, vi 0, vi it, vi 0, vi xx, vd (FP.l2d (prf xx nd0 nd1 tk0 tk1)), ss, vi 1, vd 4607182418800017408, ss]) (by rcases hu with ⟨rfl, rfl, rfl, rfl, rfl⟩ | ⟨da, db, ia, rfl, rfl, rfl, rfl, rfl⟩ <;> rfl) ?_
    refine Gol.dload X14 hx hby d10_201 203 rfl rfl ?_
    refine Gol.ldc2Double X14 hx hby hZ hown d10_203 206 rfl (w 131 _ rfl) ?_
    refine Gol.dcmp X14 hx hby d10_206 207 rfl (v := (1 : Int32)) (by decide +kernel) ?_
    refine Gol.ifYes X14 hx hby d10_207 217 (by decide) ((if0 _ _).trans (tlt (by decide : (0 : Int32) < (1 : Int32))).2.2.1) ?_
    refine Gol.iconst X14 hx hby d10_217 218 rfl (z := (0 : Int32)) rfl ?_
    refine Gol.istore X14 hx hby d10_218 220 rfl (l' := #[vr (A 0), vi sc, vj 3, ss, vd 4746794007244308480, ss, vd (FP.l2d Ob), ss, vi 0, vi it, vi 0, vi xx, vd (FP.l2d (prf xx nd0 nd1 tk0 tk1)), ss, vi 1, vd 4607182418800017408, ss]) rfl ?_
    refine Gol.dload X14 hx hby d10_220 222 rfl rfl ?_
    refine Gol.dload X14 hx hby d10_222 224 rfl rfl ?_
    refine Gol.dload X14 hx hby d10_224 226 rfl rfl ?_
    refine Gol.dmul X14 hx hby d10_226 227 rfl (v := (FP.l2d (prf xx nd0 nd1 tk0 tk1))) own_fin (own_mul1 (own_b53 _) hpx) ?_
    refine Gol.dadd X14 hx hby d10_227 228 rfl (v := (FP.l2d (Ob + (prf xx nd0 nd1 tk0 tk1)))) own_fin (dadd_w hOb (own_b53 _)) ?_
    refine Gol.dstore X14 hx hby d10_228 230 rfl (l' := #[vr (A 0), vi sc, vj 3, ss, vd 4746794007244308480, ss, vd (FP.l2d (Ob + (prf xx nd0 nd1 tk0 tk1))), ss, vi 0, vi it, vi 0, vi xx, vd (FP.l2d (prf xx nd0 nd1 tk0 tk1)), ss, vi 1, vd 4607182418800017408, ss]) rfl ?_
    refine Gol.aloadN X14 hx hby d10_230 231 rfl rfl rfl ?_
    refine Gol.iload X14 hx hby d10_231 233 rfl rfl ?_
    refine Gol.iload X14 hx hby d10_233 235 rfl rfl ?_
    refine Gol.dload X14 hx hby d10_235 237 rfl rfl ?_
    refine Gol.dload X14 hx hby d10_237 239 rfl rfl ?_
    refine Gol.callQ X14 hx hby hZ hown (z := zM0) 0 [(.int 1), (.int xx), (.double 4607182418800017408), (.double (FP.l2d (prf xx nd0 nd1 tk0 tk1)))] (a := (A 0)) (w 152 _ rfl) (w 153 _ rfl) (w 101 _ rfl) rfl (w 154 _ rfl) (w 10 _ rfl) (w 155 _ rfl) (by decide) E_A0 (rmPiv1 l Z a0 hw [] xx A pp cc nx wk ps (3 : Int64) op nd0 nd1 tk0 tk1 x0 x1 y0 y1 (.int ga) zb za M0 (prf xx nd0 nd1 tk0 tk1) T11.heap n0 Zs D G B_A0 E_A0 ⟨_, (V_A2.keep K nn_A2)⟩ ⟨_, (V_A3.keep K nn_A3)⟩ ⟨_, V_A7⟩ ⟨_, V_A8⟩ ⟨_, V_A9⟩ ⟨_, (V_A10.keep K nn_A10)⟩ ⟨_, V_A11⟩ ⟨_, V_A12⟩ ⟨_, V_A13⟩ ⟨_, V_A14⟩ ⟨_, V_A15⟩ hxx (own_b53 _) hpx hM0b) (by decide) (by decide) e14 (by rw [hml]; rfl) (rest := []) (Nat.le_of_eq rfl) (by decide) (by decide) (lenOf pd_9 rfl) rfl d10_239 242 rfl ?_
    intro T15 v15 L15 X15 hQ15
    obtain ⟨rfl, Nq15, Kq15, ⟨k15_A7, V_A7⟩, ⟨k15_A8, V_A8⟩, ⟨k15_A9, V_A9⟩, ⟨k15_A12, V_A12⟩, ⟨k15_A13, V_A13⟩, ⟨k15_A14, V_A14⟩⟩ := hQ15
    have N15 := Fr.app N11 Nq15
    have E_A0 := E_A0.keep Kq15
    have B_A0 := B_A0.keep Kq15 (nnA D 0 [7, 8, 9, 12, 13, 14] rfl)
    have V_A11 := V_A11.keep Kq15 (nnA D 11 [7, 8, 9, 12, 13, 14] rfl)
    have V_A15 := V_A15.keep Kq15 (nnA D 15 [7, 8, 9, 12, 13, 14] rfl)
    have K := K.trans Kq15 (allS (Or.inl (List.mem_of_getElem? (i := 1) rfl)) (allS (Or.inl (List.mem_of_getElem? (i := 2) rfl)) (allS (Or.inl (List.mem_of_getElem? (i := 3) rfl)) (allS (Or.inl (List.mem_of_getElem? (i := 5) rfl)) (allS (Or.inl (List.mem_of_getElem? (i := 6) rfl)) (allS (Or.inl (List.mem_of_getElem? (i := 7) rfl)) all0))))))
    show GolF _ _ _ _ _ _ _ T15 m 242 #[vr (A 0), vi sc, vj 3, ss, vd 4746794007244308480, ss, vd (FP.l2d (Ob + (prf xx nd0 nd1 tk0 tk1))), ss, vi 0, vi it, vi 0, vi xx, vd (FP.l2d (prf xx nd0 nd1 tk0 tk1)), ss, vi 1, vd 4607182418800017408, ss] []
    refine Gol.aloadN X15 hx hby d10_242 243 rfl rfl rfl ?_
    refine Gol.dup X15 hx hby d10_243 244 rfl rfl ?_
    refine Gol.getF X15 hx hby hZ hown (host := "") (Or.inl (w 94 _ rfl)) Via.refl rfl (B_A0 22 _ _ _ rfl rfl) d10_244 247 rfl ?_
    intro T16 X16 e16
    refine Gol.iconst X16 hx hby d10_247 248 rfl (z := (1 : Int32)) rfl ?_
    refine Gol.iadd X16 hx hby d10_248 249 rfl rfl ?_
    refine Gol.putF X16 hx hby hZ hown (host := "") (Or.inl (w 94 _ rfl)) Via.refl e16 (B_A0 22 _ _ _ rfl rfl) E_A0 (Or.inl (w 95 _ rfl)) (w 9 _ rfl) (ty := .int) (by decide) rfl rfl d10_249 252 rfl ?_
    intro T17 h17 X17 e17 W17
    have V_A11 := V_A11.other W17 (D 11 0 rfl)
    have V_A15 := V_A15.other W17 (D 15 0 rfl)
    have V_A7 := V_A7.other W17 (D 7 0 rfl)
    have V_A8 := V_A8.other W17 (D 8 0 rfl)
    have V_A9 := V_A9.other W17 (D 9 0 rfl)
    have V_A12 := V_A12.other W17 (D 12 0 rfl)
    have V_A13 := V_A13.other W17 (D 13 0 rfl)
    have V_A14 := V_A14.other W17 (D 14 0 rfl)
    have K := K.wr W17 (Or.inl (List.mem_of_getElem? (i := 0) rfl))
    have B_A0 : FL Z h17 (A 0) (rxv A pp cc nx wk (ps + (1 : Int32)) (3 : Int64) op) := B_A0.put LA (i0 := 22) rfl W17
    have N17 := Fr.snoc X17 N15 (G 0 rfl)
    refine Gol.fB X17 hx hby hZ hown (w 94 _ rfl) e17 B_A0 22 d10_252 d10_253 256 rfl rfl rfl rfl ?_
    intro T18 X18 e18
    refine Gol.sipush X18 hx hby d10_256 259 rfl (z := (2000 : Int32)) rfl ?_
    refine Gol.icmpYes X18 hx hby d10_259 272 (by decide) (tlt hps).1 ?_
    refine Gol.iinc X18 hx hby d10_272 275 rfl rfl (l' := #[vr (A 0), vi sc, vj 3, ss, vd 4746794007244308480, ss, vd (FP.l2d (Ob + (prf xx nd0 nd1 tk0 tk1))), ss, vi 0, vi (it + (1 : Int32)), vi 0, vi xx, vd (FP.l2d (prf xx nd0 nd1 tk0 tk1)), ss, vi 1, vd 4607182418800017408, ss]) rfl ?_
    refine Gol.goto X18 hx hby d10_275 71 (by decide) ?_
    exact k _ _ _ (sel xx (1 : Int32) x0) (sel xx x1 (1 : Int32)) y0 (-1) ga xx M0 (prf xx nd0 nd1 tk0 tk1) (Ob + (prf xx nd0 nd1 tk0 tk1)) za (.double (FP.l2d (prf xx nd0 nd1 tk0 tk1))) (.double 0) (.double 4607182418800017408) X18 e18 N17 K B_A0 ⟨_, V_A7⟩ ⟨_, V_A8⟩ ⟨_, V_A9⟩ ⟨_, V_A11⟩ ⟨_, V_A12⟩ ⟨_, V_A13⟩ ⟨_, V_A14⟩ ⟨_, V_A15⟩ rfl rfl own_sel1.symm own_sel1.symm own_sel1.symm own_sel1.symm rfl
theorem d10_0 : dc10 0 (.aload_n 0) 1 := by decide +kernel
theorem d10_1 : dc10 1 (.lload_n 2) 1 := by decide +kernel
theorem d10_2 : dc10 2 (.putfield 99) 3 := by decide +kernel
theorem d10_5 : dc10 5 (.aload_n 0) 1 := by decide +kernel
theorem d10_6 : dc10 6 (.iconst 0) 1 := by decide +kernel
theorem d10_7 : dc10 7 (.putfield 103) 3 := by decide +kernel
theorem d10_10 : dc10 10 (.iconst 0) 1 := by decide +kernel
theorem d10_11 : dc10 11 (.istore 6) 2 := by decide +kernel
theorem d10_13 : dc10 13 (.iload 6) 2 := by decide +kernel
theorem d10_15 : dc10 15 (.aload_n 0) 1 := by decide +kernel
theorem d10_16 : dc10 16 (.getfield 39) 3 := by decide +kernel
theorem d10_19 : dc10 19 (.if_icmp .ge 30) 3 := by decide +kernel
theorem d10_22 : dc10 22 (.aload_n 0) 1 := by decide +kernel
theorem d10_23 : dc10 23 (.getfield 78) 3 := by decide +kernel
theorem d10_26 : dc10 26 (.iload 6) 2 := by decide +kernel
theorem d10_28 : dc10 28 .daload 1 := by decide +kernel
theorem d10_29 : dc10 29 (.ldc2_w 107) 3 := by decide +kernel
theorem d10_32 : dc10 32 (.dcmp .g) 1 := by decide +kernel
theorem d10_33 : dc10 33 (.ifCond .ge 10) 3 := by decide +kernel
theorem d10_43 : dc10 43 (.iinc 6 1) 3 := by decide +kernel
theorem d10_46 : dc10 46 (.goto (-33)) 3 := by decide +kernel
theorem d10_49 : dc10 49 (.aload_n 0) 1 := by decide +kernel
theorem d10_50 : dc10 50 (.invokevirtual 112) 3 := by decide +kernel
theorem d10_53 : dc10 53 (.dstore 6) 2 := by decide +kernel
theorem d10_55 : dc10 55 (.iconst 0) 1 := by decide +kernel
theorem d10_56 : dc10 56 (.istore 8) 2 := by decide +kernel
theorem d10_58 : dc10 58 (.aload_n 0) 1 := by decide +kernel
theorem d10_59 : dc10 59 (.iconst 0) 1 := by decide +kernel
theorem d10_60 : dc10 60 (.putfield 116) 3 := by decide +kernel
theorem d10_63 : dc10 63 (.aload_n 0) 1 := by decide +kernel
theorem d10_64 : dc10 64 (.iconst 0) 1 := by decide +kernel
theorem d10_65 : dc10 65 (.putfield 119) 3 := by decide +kernel
theorem d10_68 : dc10 68 (.iconst 0) 1 := by decide +kernel
theorem d10_69 : dc10 69 (.istore 9) 2 := by decide +kernel
theorem d10_71 : dc10 71 (.iload 9) 2 := by decide +kernel
theorem d10_73 : dc10 73 (.bipush 100) 2 := by decide +kernel
theorem d10_75 : dc10 75 (.aload_n 0) 1 := by decide +kernel
theorem d10_76 : dc10 76 (.getfield 39) 3 := by decide +kernel
theorem d10_79 : dc10 79 .imul 1 := by decide +kernel
theorem d10_80 : dc10 80 (.if_icmp .ge 198) 3 := by decide +kernel
theorem d10_83 : dc10 83 (.dload 6) 2 := by decide +kernel
theorem d10_85 : dc10 85 (.dload 4) 2 := by decide +kernel
theorem d10_87 : dc10 87 (.dcmp .g) 1 := by decide +kernel
theorem d10_88 : dc10 88 (.ifCond .gt 190) 3 := by decide +kernel
theorem d10_91 : dc10 91 (.iload 8) 2 := by decide +kernel
theorem d10_93 : dc10 93 (.bipush 16) 2 := by decide +kernel
theorem d10_95 : dc10 95 (.if_icmp .lt 7) 3 := by decide +kernel
theorem d10_102 : dc10 102 (.iconst 0) 1 := by decide +kernel
theorem d10_103 : dc10 103 (.istore 10) 2 := by decide +kernel
theorem d10_105 : dc10 105 (.iload 10) 2 := by decide +kernel
theorem d10_107 : dc10 107 (.ifCond .eq 11) 3 := by decide +kernel
theorem d10_118 : dc10 118 (.aload_n 0) 1 := by decide +kernel
theorem d10_119 : dc10 119 (.invokevirtual 126) 3 := by decide +kernel
theorem d10_122 : dc10 122 (.istore 11) 2 := by decide +kernel
theorem d10_124 : dc10 124 (.iload 11) 2 := by decide +kernel
theorem d10_126 : dc10 126 (.ifCond .ge 15) 3 := by decide +kernel
theorem d10_129 : dc10 129 (.iload 10) 2 := by decide +kernel
theorem d10_131 : dc10 131 (.ifCond .ne 10) 3 := by decide +kernel
theorem d10_134 : dc10 134 (.aload_n 0) 1 := by decide +kernel
theorem d10_135 : dc10 135 (.iload_n 1) 1 := by decide +kernel
theorem d10_136 : dc10 136 (.invokevirtual 130) 3 := by decide +kernel
theorem d10_139 : dc10 139 (.istore 11) 2 := by decide +kernel
theorem d10_141 : dc10 141 (.iload 11) 2 := by decide +kernel
theorem d10_143 : dc10 143 (.ifCond .ge 11) 3 := by decide +kernel
theorem d10_146 : dc10 146 (.aload_n 0) 1 := by decide +kernel
theorem d10_147 : dc10 147 (.iconst 1) 1 := by decide +kernel
theorem d10_148 : dc10 148 (.putfield 103) 3 := by decide +kernel
theorem d10_151 : dc10 151 (.goto 127) 3 := by decide +kernel
theorem d10_278 : dc10 278 (.aload_n 0) 1 := by decide +kernel
theorem d10_279 : dc10 279 (.invokevirtual 156) 3 := by decide +kernel
theorem d10_282 : dc10 282 .dreturn 1 := by decide +kernel
theorem pn_10 : plainName "com/example/quorumstone/quorumstone/check/Relaxation" = true := by first | (simp [plainName, overriddenIn]; done) | decide +kernel
theorem ef_Sol (m : MethodId) (sc : Int32) (A : Nat → Addr) : entryFrame m #[(.ref (A 0)), (.int sc), (.long 3), (.double 4746794007244308480)] 17 = mkF m 0 #[vr (A 0), vi sc, vj 3, ss, vd 4746794007244308480, ss, uu, uu, uu, uu, uu, uu, uu, uu, uu, uu, uu] [] := by first | (simp [entryFrame, mkF, argsToLocals, Value.category]; done) | rfl
abbrev QSol (Z : State) (sc : Int32) (A : Nat → Addr) (pp s0 s1 nd0 nd1 tk0 tk1 a b dc0 dc1 : Int32) (h0 : Heap) (n0 : Nat) (v : Option Value) (h : Heap) (L : List Loc) : Prop := (∃ z : UInt64, v = some (.double z)) ∧ Fr n0 L ∧ Keep h0 h [(A 0), (A 7), (A 8), (A 9), (A 11), (A 12), (A 13), (A 14), (A 15), (A 16), (A 17), (A 18)] ∧ (∃ (fa fb fc fd fe : Int32) (ff : Int64) (fg : Int32), FL Z h (A 0) (rxv A fa fb fc fd fe ff fg)) ∧ ∃ ga gb : Int32, Vv Z h (A 8) .int (2 : Int32) [(.int ga), (.int gb)] (.int 0) ∧ Vv Z h (A 9) .double (2 : Int32) [(.double 4607182418800017408), (.double 4607182418800017408)] (.double 0) ∧ SR sc a b ga gb
set_option maxRecDepth 65536 in
set_option maxHeartbeats 40000000 in
theorem rmSol (l : Launch) (Z : State) (a0 : Array Value) (hw : TW a0 Z) (ws : List Jvm.Cond) (sc : Int32) (A : Nat → Addr) (pp s0 s1 nd0 nd1 tk0 tk1 a b dc0 dc1 : Int32) (h0 : Heap) (n0 : Nat) (Zs : n0 ≤ h0.size) (D : DisA A) (G : FreA A n0) (B_A0 : FL Z h0 (A 0) (rxv A pp (0 : Int32) (0 : Int32) (0 : Int32) (0 : Int32) (0 : Int64) (0 : Int32))) (E_A0 : Exa Z h0 (A 0) "com/example/quorumstone/quorumstone/check/Relaxation") (P1 : Vv Z h0 (A 1) .int (2 : Int32) [(.int s0), (.int s1)] (.int 0)) (P2 : Vv Z h0 (A 2) .int (2 : Int32) [(.int nd0), (.int nd1)] (.int 0)) (P3 : Vv Z h0 (A 3) .int (2 : Int32) [(.int tk0), (.int tk1)] (.int 0)) (P4 : Vv Z h0 (A 4) .int (2 : Int32) [(.int a), (.int b)] (.int 0)) (P5 : Vv Z h0 (A 5) .int (3 : Int32) [(.int 0), (.int 1), (.int 2)] (.int 0)) (P6 : Vv Z h0 (A 6) .int (2 : Int32) [(.int dc0), (.int dc1)] (.int 0)) (P7 : Vv Z h0 (A 7) .int (6 : Int32) [(.int (-1)), (.int (-1)), (.int (-1)), (.int (-1)), (.int 0), (.int 1)] (.int 0)) (P8 : Vv Z h0 (A 8) .int (2 : Int32) [(.int 4), (.int 5)] (.int 0)) (P9 : Vv Z h0 (A 9) .double (2 : Int32) [(.double 4607182418800017408), (.double 4607182418800017408)] (.double 0)) (P10 : Vv Z h0 (A 10) (.array .double) (2 : Int32) [(.ref (A 11)), (.ref (A 12))] .null) (P11 : Vv Z h0 (A 11) .double (2 : Int32) [(.double 4607182418800017408), (.double 0)] (.double 0)) (P12 : Vv Z h0 (A 12) .double (2 : Int32) [(.double 0), (.double 4607182418800017408)] (.double 0)) (P13 : Vv Z h0 (A 13) .double (2 : Int32) [(.double 0), (.double 0)] (.double 0)) (P14 : Vv Z h0 (A 14) .double (2 : Int32) [(.double 0), (.double 0)] (.double 0)) (P15 : Vv Z h0 (A 15) .double (2 : Int32) [(.double 0), (.double 0)] (.double 0)) (P16 : Vv Z h0 (A 16) .double (2 : Int32) [(.double 0), (.double 0)] (.double 0)) (P17 : Vv Z h0 (A 17) .int (8 : Int32) [(.int 0), (.int 0), (.int 0), (.int 0), (.int 0), (.int 0), (.int 0), (.int 0)] (.int 0)) (P18 : Vv Z h0 (A 18) .double (8 : Int32) [(.double 0), (.double 0), (.double 0), (.double 0), (.double 0), (.double 0), (.double 0), (.double 0)] (.double 0)) (ha : B01 a) (hb : B01 b) (hab : a ≠ b) (hdc0 : B01 dc0) (hdc1 : B01 dc1) (hdd : dc0 ≠ dc1) (hs0 : 0 ≤ s0.toInt) (hs1 : 0 ≤ s1.toInt) (hsz : ∀ d : Int32, B01 d → (prf d nd0 nd1 tk0 tk1).toInt ≤ (sel (sel d dc0 dc1) s0 s1).toInt) (hcase : SC sc a b nd0 nd1 tk0 tk1) (hpp : pp = 1 ∨ pp = 100) :
    Mt l (⟨"com/example/quorumstone/quorumstone/check/Relaxation", "solve", "(IJD)D"⟩ : MethodName) prog_8_method_3_code 17 (some .double) ws (rmm 4 0 0 130) #[(.ref (A 0)), (.int sc), (.long 3), (.double 4746794007244308480)] Z h0 (QSol Z sc A pp s0 s1 nd0 nd1 tk0 tk1 a b dc0 dc1 h0 n0) 0 0 := by
  refine own_body n0 (plainFor_of_name pn_10) hw (fun m => ef_Sol m sc A) ?_
  intro p ev s m below meth c s₁ Bd hZ hx hby hml hown X0 eh0 N0 w
  obtain ⟨k_A1, V_A1⟩ := P1
  obtain ⟨k_A2, V_A2⟩ := P2
  obtain ⟨k_A3, V_A3⟩ := P3
  obtain ⟨k_A4, V_A4⟩ := P4
  obtain ⟨k_A5, V_A5⟩ := P5
  obtain ⟨k_A6, V_A6⟩ := P6
  obtain ⟨k_A7, V_A7⟩ := P7
  obtain ⟨k_A8, V_A8⟩ := P8
  obtain ⟨k_A9, V_A9⟩ := P9
  obtain ⟨k_A10, V_A10⟩ := P10
  obtain ⟨k_A11, V_A11⟩ := P11
  obtain ⟨k_A12, V_A12⟩ := P12
  obtain ⟨k_A13, V_A13⟩ := P13
  obtain ⟨k_A14, V_A14⟩ := P14
  obtain ⟨k_A15, V_A15⟩ := P15
  obtain ⟨k_A16, V_A16⟩ := P16
  obtain ⟨k_A17, V_A17⟩ := P17
  obtain ⟨k_A18, V_A18⟩ := P18
  have nn_A1 : (A 1) ∉ [(A 0), (A 7), (A 8), (A 9), (A 11), (A 12), (A 13), (A 14), (A 15), (A 16), (A 17), (A 18)] := (nnA D 1 [0, 7, 8, 9, 11, 12, 13, 14, 15, 16, 17, 18] rfl)
  have nn_A2 : (A 2) ∉ [(A 0), (A 7), (A 8), (A 9), (A 11), (A 12), (A 13), (A 14), (A 15), (A 16), (A 17), (A 18)] := (nnA D 2 [0, 7, 8, 9, 11, 12, 13, 14, 15, 16, 17, 18] rfl)
  have nn_A3 : (A 3) ∉ [(A 0), (A 7), (A 8), (A 9), (A 11), (A 12), (A 13), (A 14), (A 15), (A 16), (A 17), (A 18)] := (nnA D 3 [0, 7, 8, 9, 11, 12, 13, 14, 15, 16, 17, 18] rfl)
  have nn_A4 : (A 4) ∉ [(A 0), (A 7), (A 8), (A 9), (A 11), (A 12), (A 13), (A 14), (A 15), (A 16), (A 17), (A 18)] := (nnA D 4 [0, 7, 8, 9, 11, 12, 13, 14, 15, 16, 17, 18] rfl)
  have nn_A5 : (A 5) ∉ [(A 0), (A 7), (A 8), (A 9), (A 11), (A 12), (A 13), (A 14), (A 15), (A 16), (A 17), (A 18)] := (nnA D 5 [0, 7, 8, 9, 11, 12, 13, 14, 15, 16, 17, 18] rfl)
  have nn_A6 : (A 6) ∉ [(A 0), (A 7), (A 8), (A 9), (A 11), (A 12), (A 13), (A 14), (A 15), (A 16), (A 17), (A 18)] := (nnA D 6 [0, 7, 8, 9, 11, 12, 13, 14, 15, 16, 17, 18] rfl)
  have nn_A10 : (A 10) ∉ [(A 0), (A 7), (A 8), (A 9), (A 11), (A 12), (A 13), (A 14), (A 15), (A 16), (A 17), (A 18)] := (nnA D 10 [0, 7, 8, 9, 11, 12, 13, 14, 15, 16, 17, 18] rfl)
  have LA := own_LA hw
  have K := Keep.refl h0 [(A 0), (A 7), (A 8), (A 9), (A 11), (A 12), (A 13), (A 14), (A 15), (A 16), (A 17), (A 18)]
  show GolF _ _ _ _ _ _ _ s₁ m 0 #[vr (A 0), vi sc, vj 3, ss, vd 4746794007244308480, ss, uu, uu, uu, uu, uu, uu, uu, uu, uu, uu, uu] []
  refine Gol.aloadN X0 hx hby d10_0 1 rfl rfl rfl ?_
  refine Gol.lloadN X0 hx hby d10_1 2 rfl rfl ?_
  refine Gol.putF X0 hx hby hZ hown (host := "") (Or.inl (w 103 _ rfl)) Via.refl eh0 (B_A0 23 _ _ _ rfl rfl) E_A0 (Or.inl (w 104 _ rfl)) (w 9 _ rfl) (ty := .long) (by decide) rfl rfl d10_2 5 rfl ?_
  intro T1 h1 X1 e1 W1
  have E_A0 := E_A0.wr W1
  have V_A7 := V_A7.other W1 (D 7 0 rfl)
  have V_A8 := V_A8.other W1 (D 8 0 rfl)
  have V_A9 := V_A9.other W1 (D 9 0 rfl)
  have V_A11 := V_A11.other W1 (D 11 0 rfl)
  have V_A12 := V_A12.other W1 (D 12 0 rfl)
  have V_A13 := V_A13.other W1 (D 13 0 rfl)
  have V_A14 := V_A14.other W1 (D 14 0 rfl)
  have V_A15 := V_A15.other W1 (D 15 0 rfl)
  have V_A16 := V_A16.other W1 (D 16 0 rfl)
  have V_A17 := V_A17.other W1 (D 17 0 rfl)
  have V_A18 := V_A18.other W1 (D 18 0 rfl)
  have K := K.wr W1 (Or.inl (List.mem_of_getElem? (i := 0) rfl))
  have Zs := Nat.le_trans Zs (Keep.of_wr W1).1
  have B_A0 : FL Z h1 (A 0) (rxv A pp (0 : Int32) (0 : Int32) (0 : Int32) (0 : Int32) (3 : Int64) (0 : Int32)) := B_A0.put LA (i0 := 23) rfl W1
  have N1 := Fr.snoc X1 N0 (G 0 rfl)
  refine Gol.aloadN X1 hx hby d10_5 6 rfl rfl rfl ?_
  refine Gol.iconst X1 hx hby d10_6 7 rfl (z := (0 : Int32)) rfl ?_
  refine Gol.putFN X1 hx hby hZ hown (w 105 _ rfl) Via.refl e1 (B_A0 24 _ _ _ rfl rfl) E_A0 (Or.inl (w 106 _ rfl)) (w 9 _ rfl) (ty := .boolean) (v' := (.int (0 : Int32))) (by decide) rfl (by decide) d10_7 10 rfl ?_
  intro T2 h2 X2 e2 W2
  have E_A0 := E_A0.wr W2
  have V_A7 := V_A7.other W2 (D 7 0 rfl)
  have V_A8 := V_A8.other W2 (D 8 0 rfl)
  have V_A9 := V_A9.other W2 (D 9 0 rfl)
  have V_A11 := V_A11.other W2 (D 11 0 rfl)
  have V_A12 := V_A12.other W2 (D 12 0 rfl)
  have V_A13 := V_A13.other W2 (D 13 0 rfl)
  have V_A14 := V_A14.other W2 (D 14 0 rfl)
  have V_A15 := V_A15.other W2 (D 15 0 rfl)
  have V_A16 := V_A16.other W2 (D 16 0 rfl)
  have V_A17 := V_A17.other W2 (D 17 0 rfl)
  have V_A18 := V_A18.other W2 (D 18 0 rfl)
  have K := K.wr W2 (Or.inl (List.mem_of_getElem? (i := 0) rfl))
  have Zs := Nat.le_trans Zs (Keep.of_wr W2).1
  have B_A0 : FL Z h2 (A 0) (rxv A pp (0 : Int32) (0 : Int32) (0 : Int32) (0 : Int32) (3 : Int64) (0 : Int32)) := B_A0.put LA (i0 := 24) rfl W2
  have N2 := Fr.snoc X2 N1 (G 0 rfl)
  refine Gol.iconst X2 hx hby d10_10 11 rfl (z := (0 : Int32)) rfl ?_
  refine Gol.istore X2 hx hby d10_11 13 rfl (l' := #[vr (A 0), vi sc, vj 3, ss, vd 4746794007244308480, ss, vi 0, uu, uu, uu, uu, uu, uu, uu, uu, uu, uu]) rfl ?_
  refine Gol.iload X2 hx hby d10_13 15 rfl rfl ?_
  refine Gol.fB X2 hx hby hZ hown (w 36 _ rfl) e2 B_A0 6 d10_15 d10_16 19 rfl rfl rfl rfl ?_
  intro T3 X3 e3
  refine Gol.icmpNo X3 hx hby d10_19 22 rfl (tlt (by decide : (0 : Int32) < (2 : Int32))).2.1 ?_
  refine Gol.fB X3 hx hby hZ hown (w 71 _ rfl) e3 B_A0 16 d10_22 d10_23 26 rfl rfl rfl rfl ?_
  intro T4 X4 e4
  refine Gol.iload X4 hx hby d10_26 28 rfl rfl ?_
  refine Gol.daload X4 hx hby hZ e4 V_A9 d10_28 29 rfl ⟨by decide, by decide⟩ (v := (4607182418800017408 : UInt64)) rfl ?_
  refine Gol.ldc2Double X4 hx hby hZ hown d10_29 32 rfl (w 107 _ rfl) ?_
  refine Gol.dcmp X4 hx hby d10_32 33 rfl (v := (1 : Int32)) (by decide +kernel) ?_
  refine Gol.ifYes X4 hx hby d10_33 43 (by decide) ((if0 _ _).trans (flt (by decide : ¬ ((1 : Int32) < (0 : Int32)))).2.1) ?_
  refine Gol.iinc X4 hx hby d10_43 46 rfl rfl (l' := #[vr (A 0), vi sc, vj 3, ss, vd 4746794007244308480, ss, vi 1, uu, uu, uu, uu, uu, uu, uu, uu, uu, uu]) rfl ?_
  refine Gol.goto X4 hx hby d10_46 13 (by decide) ?_
  refine Gol.iload X4 hx hby d10_13 15 rfl rfl ?_
  refine Gol.fB X4 hx hby hZ hown (w 36 _ rfl) e4 B_A0 6 d10_15 d10_16 19 rfl rfl rfl rfl ?_
  intro T5 X5 e5
  refine Gol.icmpNo X5 hx hby d10_19 22 rfl (tlt (by decide : (1 : Int32) < (2 : Int32))).2.1 ?_
  refine Gol.fB X5 hx hby hZ hown (w 71 _ rfl) e5 B_A0 16 d10_22 d10_23 26 rfl rfl rfl rfl ?_
  intro T6 X6 e6
  refine Gol.iload X6 hx hby d10_26 28 rfl rfl ?_
  refine Gol.daload X6 hx hby hZ e6 V_A9 d10_28 29 rfl ⟨by decide, by decide⟩ (v := (4607182418800017408 : UInt64)) rfl ?_
  refine Gol.ldc2Double X6 hx hby hZ hown d10_29 32 rfl (w 107 _ rfl) ?_
  refine Gol.dcmp X6 hx hby d10_32 33 rfl (v := (1 : Int32)) (by decide +kernel) ?_
  refine Gol.ifYes X6 hx hby d10_33 43 (by decide) ((if0 _ _).trans (flt (by decide : ¬ ((1 : Int32) < (0 : Int32)))).2.1) ?_
  refine Gol.iinc X6 hx hby d10_43 46 rfl rfl (l' := #[vr (A 0), vi sc, vj 3, ss, vd 4746794007244308480, ss, vi 2, uu, uu, uu, uu, uu, uu, uu, uu, uu, uu]) rfl ?_
  refine Gol.goto X6 hx hby d10_46 13 (by decide) ?_
  refine Gol.iload X6 hx hby d10_13 15 rfl rfl ?_
  refine Gol.fB X6 hx hby hZ hown (w 36 _ rfl) e6 B_A0 6 d10_15 d10_16 19 rfl rfl rfl rfl ?_
  intro T7 X7 e7
  refine Gol.icmpYes X7 hx hby d10_19 49 (by decide) (flt (by decide : ¬ ((2 : Int32) < (2 : Int32)))).2.1 ?_
  refine Gol.aloadN X7 hx hby d10_49 50 rfl rfl rfl ?_
  refine Gol.callQ X7 hx hby hZ hown (z := zM0) 0 [] (a := (A 0)) (w 108 _ rfl) (w 109 _ rfl) (w 101 _ rfl) rfl (w 110 _ rfl) (w 10 _ rfl) (w 111 _ rfl) (by decide) E_A0 (rmSSo l Z a0 hw []  A pp (0 : Int32) (0 : Int32) (0 : Int32) (0 : Int32) (3 : Int64) (0 : Int32) (.double 0) (.double 0) (.double 0) (.double 0) h2 n0 Zs D G B_A0 E_A0 ⟨_, V_A8⟩ ⟨_, V_A9⟩ ⟨_, V_A13⟩ ⟨_, V_A14⟩ ⟨_, (V_A10.keep K nn_A10)⟩ ⟨_, V_A11⟩ ⟨_, V_A12⟩ ) (by decide) (by decide) e7 (by rw [hml]; rfl) (rest := []) (Nat.le_of_eq rfl) (by decide) (by decide) (lenOf pd_10 rfl) rfl d10_50 53 rfl ?_
  intro T8 v8 L8 X8 hQ8
  obtain ⟨rfl, Nq8, Kq8, ⟨k8_A13, V_A13⟩, ⟨k8_A14, V_A14⟩⟩ := hQ8
  have N8 := Fr.app N2 Nq8
  have E_A0 := E_A0.keep Kq8
  have B_A0 := B_A0.keep Kq8 (nnA D 0 [13, 14] rfl)
  have V_A7 := V_A7.keep Kq8 (nnA D 7 [13, 14] rfl)
  have V_A8 := V_A8.keep Kq8 (nnA D 8 [13, 14] rfl)
  have V_A9 := V_A9.keep Kq8 (nnA D 9 [13, 14] rfl)
  have V_A11 := V_A11.keep Kq8 (nnA D 11 [13, 14] rfl)
  have V_A12 := V_A12.keep Kq8 (nnA D 12 [13, 14] rfl)
  have V_A15 := V_A15.keep Kq8 (nnA D 15 [13, 14] rfl)
  have V_A16 := V_A16.keep Kq8 (nnA D 16 [13, 14] rfl)
  have V_A17 := V_A17.keep Kq8 (nnA D 17 [13, 14] rfl)
  have V_A18 := V_A18.keep Kq8 (nnA D 18 [13, 14] rfl)
  have K := K.trans Kq8 (allS (Or.inl (List.mem_of_getElem? (i := 6) rfl)) (allS (Or.inl (List.mem_of_getElem? (i := 7) rfl)) all0))
  have Zs := Nat.le_trans Zs Kq8.1
  show GolF _ _ _ _ _ _ _ T8 m 53 #[vr (A 0), vi sc, vj 3, ss, vd 4746794007244308480, ss, vi 2, uu, uu, uu, uu, uu, uu, uu, uu, uu, uu] [(.double 0)]
  refine Gol.dstore X8 hx hby d10_53 55 rfl (l' := #[vr (A 0), vi sc, vj 3, ss, vd 4746794007244308480, ss, vd 0, ss, uu, uu, uu, uu, uu, uu, uu, uu, uu]) rfl ?_
  refine Gol.iconst X8 hx hby d10_55 56 rfl (z := (0 : Int32)) rfl ?_
  refine Gol.istore X8 hx hby d10_56 58 rfl (l' := #[vr (A 0), vi sc, vj 3, ss, vd 4746794007244308480, ss, vd 0, ss, vi 0, uu, uu, uu, uu, uu, uu, uu, uu]) rfl ?_
  have V_A14 : Arv Z T8.heap (A 14) k8_A14 .double (2 : Int32) [(.double (FP.l2d 0)), (.double (FP.l2d 0))] (.double 0) := by rw [l2d_zero]; exact V_A14
  have hM0 : 0 ≤ (0 : Int64).toInt ∧ (0 : Int64).toInt ≤ s0.toInt := ⟨Int.le_refl _, hs0⟩
  have hM1 : 0 ≤ (0 : Int64).toInt ∧ (0 : Int64).toInt ≤ s1.toInt := ⟨Int.le_refl _, hs1⟩
  refine Gol.aloadN X8 hx hby d10_58 59 rfl rfl rfl ?_
  refine Gol.iconst X8 hx hby d10_59 60 rfl (z := (0 : Int32)) rfl ?_
  refine Gol.putF X8 hx hby hZ hown (host := "") (Or.inl (w 123 _ rfl)) Via.refl rfl (B_A0 25 _ _ _ rfl rfl) E_A0 (Or.inl (w 124 _ rfl)) (w 9 _ rfl) (ty := .int) (by decide) rfl rfl d10_60 63 rfl ?_
  intro T9 h9 X9 e9 W9
  have E_A0 := E_A0.wr W9
  have V_A7 := V_A7.other W9 (D 7 0 rfl)
  have V_A8 := V_A8.other W9 (D 8 0 rfl)
  have V_A9 := V_A9.other W9 (D 9 0 rfl)
  have V_A11 := V_A11.other W9 (D 11 0 rfl)
  have V_A12 := V_A12.other W9 (D 12 0 rfl)
  have V_A15 := V_A15.other W9 (D 15 0 rfl)
  have V_A16 := V_A16.other W9 (D 16 0 rfl)
  have V_A17 := V_A17.other W9 (D 17 0 rfl)
  have V_A18 := V_A18.other W9 (D 18 0 rfl)
  have V_A13 := V_A13.other W9 (D 13 0 rfl)
  have V_A14 := V_A14.other W9 (D 14 0 rfl)
  have K := K.wr W9 (Or.inl (List.mem_of_getElem? (i := 0) rfl))
  have Zs := Nat.le_trans Zs (Keep.of_wr W9).1
  have B_A0 : FL Z h9 (A 0) (rxv A pp (0 : Int32) (0 : Int32) (0 : Int32) (0 : Int32) (3 : Int64) (0 : Int32)) := B_A0.put LA (i0 := 25) rfl W9
  have N9 := Fr.snoc X9 N8 (G 0 rfl)
  refine Gol.aloadN X9 hx hby d10_63 64 rfl rfl rfl ?_
  refine Gol.iconst X9 hx hby d10_64 65 rfl (z := (0 : Int32)) rfl ?_
  refine Gol.putF X9 hx hby hZ hown (host := "") (Or.inl (w 125 _ rfl)) Via.refl e9 (B_A0 26 _ _ _ rfl rfl) E_A0 (Or.inl (w 126 _ rfl)) (w 9 _ rfl) (ty := .int) (by decide) rfl rfl d10_65 68 rfl ?_
  intro T10 h10 X10 e10 W10
  have E_A0 := E_A0.wr W10
  have V_A7 := V_A7.other W10 (D 7 0 rfl)
  have V_A8 := V_A8.other W10 (D 8 0 rfl)
  have V_A9 := V_A9.other W10 (D 9 0 rfl)
  have V_A11 := V_A11.other W10 (D 11 0 rfl)
  have V_A12 := V_A12.other W10 (D 12 0 rfl)
  have V_A15 := V_A15.other W10 (D 15 0 rfl)
  have V_A16 := V_A16.other W10 (D 16 0 rfl)
  have V_A17 := V_A17.other W10 (D 17 0 rfl)
  have V_A18 := V_A18.other W10 (D 18 0 rfl)
  have V_A13 := V_A13.other W10 (D 13 0 rfl)
  have V_A14 := V_A14.other W10 (D 14 0 rfl)
  have K := K.wr W10 (Or.inl (List.mem_of_getElem? (i := 0) rfl))
  have Zs := Nat.le_trans Zs (Keep.of_wr W10).1
  have B_A0 : FL Z h10 (A 0) (rxv A pp (0 : Int32) (0 : Int32) (0 : Int32) (0 : Int32) (3 : Int64) (0 : Int32)) := B_A0.put LA (i0 := 26) rfl W10
  have N10 := Fr.snoc X10 N9 (G 0 rfl)
  refine Gol.iconst X10 hx hby d10_68 69 rfl (z := (0 : Int32)) rfl ?_
  refine Gol.istore X10 hx hby d10_69 71 rfl (l' := #[vr (A 0), vi sc, vj 3, ss, vd 4746794007244308480, ss, vd 0, ss, vi 0, vi 0, uu, uu, uu, uu, uu, uu, uu]) rfl ?_
  refine Gol.iload X10 hx hby d10_71 73 rfl rfl ?_
  refine Gol.bipush X10 hx hby d10_73 75 rfl (z := (100 : Int32)) rfl ?_
  refine Gol.fB X10 hx hby hZ hown (w 36 _ rfl) e10 B_A0 6 d10_75 d10_76 79 rfl rfl rfl rfl ?_
  intro T11 X11 e11
  refine Gol.imul X11 hx hby d10_79 80 rfl (z := (200 : Int32)) rfl ?_
  refine Gol.icmpNo X11 hx hby d10_80 83 rfl (tlt (by decide : (0 : Int32) < (200 : Int32))).2.1 ?_
  refine Gol.dload X11 hx hby d10_83 85 rfl rfl ?_
  refine Gol.dload X11 hx hby d10_85 87 rfl rfl ?_
  refine Gol.dcmp X11 hx hby d10_87 88 rfl (v := (-1 : Int32)) (by decide +kernel) ?_
  refine Gol.ifNo X11 hx hby d10_88 91 rfl ((if0 _ _).trans (flt (by decide : ¬ ((0 : Int32) < (-1 : Int32)))).2.2.1) ?_
  refine Gol.iload X11 hx hby d10_91 93 rfl rfl ?_
  refine Gol.bipush X11 hx hby d10_93 95 rfl (z := (16 : Int32)) rfl ?_
  refine Gol.icmpYes X11 hx hby d10_95 102 (by decide) (tlt (by decide : (0 : Int32) < (16 : Int32))).1 ?_
  refine Gol.iconst X11 hx hby d10_102 103 rfl (z := (0 : Int32)) rfl ?_
  refine Gol.istore X11 hx hby d10_103 105 rfl (l' := #[vr (A 0), vi sc, vj 3, ss, vd 4746794007244308480, ss, vd 0, ss, vi 0, vi 0, vi 0, uu, uu, uu, uu, uu, uu]) rfl ?_
  refine Gol.iload X11 hx hby d10_105 107 rfl rfl ?_
  refine Gol.ifYes X11 hx hby d10_107 118 (by decide) ((if0 _ _).trans (teq (by decide : (0 : Int32) = (0 : Int32))).1) ?_
  refine Gol.aloadN X11 hx hby d10_118 119 rfl rfl rfl ?_
  refine Gol.callQ X11 hx hby hZ hown (z := zM0) 0 [] (a := (A 0)) (w 127 _ rfl) (w 128 _ rfl) (w 101 _ rfl) rfl (w 129 _ rfl) (w 10 _ rfl) (w 130 _ rfl) (by decide) E_A0 (rmBest0 l Z a0 hw []  A pp (0 : Int32) (0 : Int32) (0 : Int32) (3 : Int64) (0 : Int32) h10 n0 Zs D G B_A0 E_A0  ) (by decide) (by decide) e11 (by rw [hml]; rfl) (rest := []) (Nat.le_of_eq rfl) (by decide) (by decide) (lenOf pd_11 rfl) rfl d10_119 122 rfl ?_
  intro T12 v12 L12 X12 hQ12
  obtain ⟨rfl, Nq12, eq12⟩ := hQ12
  have N12 := Fr.app N10 Nq12
  show GolF _ _ _ _ _ _ _ T12 m 122 #[vr (A 0), vi sc, vj 3, ss, vd 4746794007244308480, ss, vd 0, ss, vi 0, vi 0, vi 0, uu, uu, uu, uu, uu, uu] [(.int (-1))]
  refine Gol.istore X12 hx hby d10_122 124 rfl (l' := #[vr (A 0), vi sc, vj 3, ss, vd 4746794007244308480, ss, vd 0, ss, vi 0, vi 0, vi 0, vi (-1), uu, uu, uu, uu, uu]) rfl ?_
  refine Gol.iload X12 hx hby d10_124 126 rfl rfl ?_
  refine Gol.ifNo X12 hx hby d10_126 129 rfl ((if0 _ _).trans (tlt (by decide : (-1 : Int32) < (0 : Int32))).2.1) ?_
  refine Gol.iload X12 hx hby d10_129 131 rfl rfl ?_
  refine Gol.ifNo X12 hx hby d10_131 134 rfl ((if0 _ _).trans (teq (by decide : (0 : Int32) = (0 : Int32))).2) ?_
  rcases own_split hcase hpp with rfl | ⟨rfl, hpa, hqa⟩ | ⟨rfl, rfl, ⟨hpa, hqa⟩, ⟨hpb, hqb⟩⟩ | ⟨rfl, rfl, ⟨hpa, hqa⟩, ⟨hpb, hqb⟩⟩
  · skip
    show GolF _ _ _ _ _ _ _ T12 m 134 #[vr (A 0), vi 0, vj 3, ss, vd 4746794007244308480, ss, vd 0, ss, vi 0, vi 0, vi 0, vi (-1), uu, uu, uu, uu, uu] []
    refine Gol.aloadN X12 hx hby d10_134 135 rfl rfl rfl ?_
    refine Gol.iloadN X12 hx hby d10_135 136 rfl rfl ?_
    refine Gol.callQ X12 hx hby hZ hown (z := zM0) 0 [(.int 0)] (a := (A 0)) (w 132 _ rfl) (w 133 _ rfl) (w 101 _ rfl) rfl (w 134 _ rfl) (w 10 _ rfl) (w 135 _ rfl) (by decide) E_A0 (rmPr0 l Z a0 hw []  A pp (0 : Int32) (0 : Int32) (0 : Int32) (0 : Int32) s0 s1 (-1) (-1) 0 1 0 0 h10 n0 Zs D G B_A0 E_A0 ⟨_, (V_A1.keep K nn_A1)⟩ ⟨_, V_A7⟩ ⟨_, V_A14⟩ hM0 hM1) (by decide) (by decide) eq12 (by rw [hml]; rfl) (rest := []) (Nat.le_of_eq rfl) (by decide) (by decide) (lenOf pd_6 rfl) rfl d10_136 139 rfl ?_
    intro T13 v13 L13 X13 hQ13
    obtain ⟨rfl, Nq13, Kq13, B_A0⟩ := hQ13
    have N13 := Fr.app N12 Nq13
    have E_A0 := E_A0.keep Kq13
    have V_A8 := V_A8.keep Kq13 (nnA D 8 [0] rfl)
    have V_A9 := V_A9.keep Kq13 (nnA D 9 [0] rfl)
    have V_A16 := V_A16.keep Kq13 (nnA D 16 [0] rfl)
    have K := K.trans Kq13 (allS (Or.inl (List.mem_of_getElem? (i := 0) rfl)) all0)
    have Zs := Nat.le_trans Zs Kq13.1
    show GolF _ _ _ _ _ _ _ T13 m 139 #[vr (A 0), vi 0, vj 3, ss, vd 4746794007244308480, ss, vd 0, ss, vi 0, vi 0, vi 0, vi (-1), uu, uu, uu, uu, uu] [(.int (-1))]
    refine Gol.istore X13 hx hby d10_139 141 rfl (l' := #[vr (A 0), vi 0, vj 3, ss, vd 4746794007244308480, ss, vd 0, ss, vi 0, vi 0, vi 0, vi (-1), uu, uu, uu, uu, uu]) rfl ?_
    refine Gol.iload X13 hx hby d10_141 143 rfl rfl ?_
    refine Gol.ifNo X13 hx hby d10_143 146 rfl ((if0 _ _).trans (tlt (by decide : (-1 : Int32) < (0 : Int32))).2.1) ?_
    refine Gol.aloadN X13 hx hby d10_146 147 rfl rfl rfl ?_
    refine Gol.iconst X13 hx hby d10_147 148 rfl (z := (1 : Int32)) rfl ?_
    refine Gol.putFN X13 hx hby hZ hown (w 105 _ rfl) Via.refl rfl (B_A0 24 _ _ _ rfl rfl) E_A0 (Or.inl (w 106 _ rfl)) (w 9 _ rfl) (ty := .boolean) (v' := (.int (1 : Int32))) (by decide) rfl (by decide) d10_148 151 rfl ?_
    intro T14 h14 X14 e14 W14
    have E_A0 := E_A0.wr W14
    have V_A8 := V_A8.other W14 (D 8 0 rfl)
    have V_A9 := V_A9.other W14 (D 9 0 rfl)
    have V_A16 := V_A16.other W14 (D 16 0 rfl)
    have K := K.wr W14 (Or.inl (List.mem_of_getElem? (i := 0) rfl))
    have Zs := Nat.le_trans Zs (Keep.of_wr W14).1
    have B_A0 : FL Z h14 (A 0) (rxv A pp (0 : Int32) (0 : Int32) (0 : Int32) (0 : Int32) (3 : Int64) (1 : Int32)) := B_A0.put LA (i0 := 24) rfl W14
    have N14 := Fr.snoc X14 N13 (G 0 rfl)
    refine Gol.goto X14 hx hby d10_151 278 (by decide) ?_
    refine Gol.aloadN X14 hx hby d10_278 279 rfl rfl rfl ?_
    refine Gol.callQ X14 hx hby hZ hown (z := zM0) 0 [] (a := (A 0)) (w 156 _ rfl) (w 157 _ rfl) (w 101 _ rfl) rfl (w 158 _ rfl) (w 10 _ rfl) (w 159 _ rfl) (by decide) E_A0 (rmBou l Z a0 hw []  A pp (0 : Int32) (0 : Int32) (0 : Int32) (0 : Int32) (1 : Int32) 4 5 (.double 0) (.double 0) nd0 nd1 tk0 tk1 dc0 dc1 h14 n0 Zs D G B_A0 E_A0 ⟨_, V_A8⟩ ⟨_, V_A9⟩ ⟨_, V_A16⟩ ⟨_, (V_A2.keep K nn_A2)⟩ ⟨_, (V_A3.keep K nn_A3)⟩ ⟨_, (V_A5.keep K nn_A5)⟩ ⟨_, (V_A6.keep K nn_A6)⟩ (Or.inl rfl) (Or.inl rfl)) (by decide) (by decide) e14 (by rw [hml]; rfl) (rest := []) (Nat.le_of_eq rfl) (by decide) (by decide) (lenOf pd_10 rfl) rfl d10_279 282 rfl ?_
    intro T15 v15 L15 X15 hQ15
    obtain ⟨⟨zr15, rfl⟩, Nq15, Kq15⟩ := hQ15
    have N15 := Fr.app N14 Nq15
    have B_A0 := B_A0.keep Kq15 (nnA D 0 [16] rfl)
    have V_A8 := V_A8.keep Kq15 (nnA D 8 [16] rfl)
    have V_A9 := V_A9.keep Kq15 (nnA D 9 [16] rfl)
    have K := K.trans Kq15 (allS (Or.inl (List.mem_of_getElem? (i := 9) rfl)) all0)
    show GolF _ _ _ _ _ _ _ T15 m 282 #[vr (A 0), vi 0, vj 3, ss, vd 4746794007244308480, ss, vd 0, ss, vi 0, vi 0, vi 0, vi (-1), uu, uu, uu, uu, uu] [(.double zr15)]
    exact Gol.retD X15 hx hby Bd.returns Bd.notSynchronized d10_282 rfl ⟨⟨_, rfl⟩, N15, K, ⟨_, _, _, _, _, _, _, B_A0⟩, 4, 5, ⟨_, V_A8⟩, ⟨_, V_A9⟩, Or.inl ⟨rfl, rfl, rfl⟩⟩ (by decide) (by decide)
  · skip
    have hba := own_in1 ha
    have hma := own_md (own_selB (c := a) hdc0 hdc1) (own_m00 (own_selB hdc0 hdc1))
    show GolF _ _ _ _ _ _ _ T12 m 134 #[vr (A 0), vi 1, vj 3, ss, vd 4746794007244308480, ss, vd 0, ss, vi 0, vi 0, vi 0, vi (-1), uu, uu, uu, uu, uu] []
    refine Gol.aloadN X12 hx hby d10_134 135 rfl rfl rfl ?_
    refine Gol.iloadN X12 hx hby d10_135 136 rfl rfl ?_
    refine Gol.callQ X12 hx hby hZ hown (z := zM0) 0 [(.int 1)] (a := (A 0)) (w 132 _ rfl) (w 133 _ rfl) (w 101 _ rfl) rfl (w 134 _ rfl) (w 10 _ rfl) (w 135 _ rfl) (by decide) E_A0 (rmPr1 l Z a0 hw []  A pp (0 : Int32) (0 : Int32) (0 : Int32) (0 : Int32) s0 s1 (-1) (-1) 0 1 0 0 a b nd0 nd1 tk0 tk1 dc0 dc1 (.int 0) (.int 0) (.int 0) (.int 0) (.int 0) (.int 0) (.int 0) (.int 0) (.double 0) (.double 0) (.double 0) (.double 0) (.double 0) (.double 0) (.double 0) (.double 0) h10 n0 Zs D G B_A0 E_A0 ⟨_, (V_A1.keep K nn_A1)⟩ ⟨_, V_A7⟩ ⟨_, V_A14⟩ ⟨_, (V_A4.keep K nn_A4)⟩ ⟨_, (V_A2.keep K nn_A2)⟩ ⟨_, (V_A3.keep K nn_A3)⟩ ⟨_, (V_A5.keep K nn_A5)⟩ ⟨_, (V_A6.keep K nn_A6)⟩ ⟨_, V_A17⟩ ⟨_, V_A18⟩ hM0 hM1 ha hb hba hdc0 hdc1 hma hpa) (by decide) (by decide) eq12 (by rw [hml]; rfl) (rest := []) (Nat.le_of_eq rfl) (by decide) (by decide) (lenOf pd_6 rfl) rfl d10_136 139 rfl ?_
    intro T16 v16 L16 X16 hQ16
    obtain ⟨rfl, Nq16, Kq16, B_A0, ⟨k16_A17, V_A17⟩, ⟨k16_A18, V_A18⟩⟩ := hQ16
    have N16 := Fr.app N12 Nq16
    have E_A0 := E_A0.keep Kq16
    have V_A7 := V_A7.keep Kq16 (nnA D 7 [0, 17, 18] rfl)
    have V_A8 := V_A8.keep Kq16 (nnA D 8 [0, 17, 18] rfl)
    have V_A9 := V_A9.keep Kq16 (nnA D 9 [0, 17, 18] rfl)
    have V_A11 := V_A11.keep Kq16 (nnA D 11 [0, 17, 18] rfl)
    have V_A12 := V_A12.keep Kq16 (nnA D 12 [0, 17, 18] rfl)
    have V_A15 := V_A15.keep Kq16 (nnA D 15 [0, 17, 18] rfl)
    have V_A16 := V_A16.keep Kq16 (nnA D 16 [0, 17, 18] rfl)
    have V_A13 := V_A13.keep Kq16 (nnA D 13 [0, 17, 18] rfl)
    have V_A14 := V_A14.keep Kq16 (nnA D 14 [0, 17, 18] rfl)
    have K := K.trans Kq16 (allS (Or.inl (List.mem_of_getElem? (i := 0) rfl)) (allS (Or.inl (List.mem_of_getElem? (i := 10) rfl)) (allS (Or.inl (List.mem_of_getElem? (i := 11) rfl)) all0)))
    have Zs := Nat.le_trans Zs Kq16.1
    show GolF _ _ _ _ _ _ _ T16 m 139 #[vr (A 0), vi 1, vj 3, ss, vd 4746794007244308480, ss, vd 0, ss, vi 0, vi 0, vi 0, vi (-1), uu, uu, uu, uu, uu] [(.int a)]
    refine Gol.istore X16 hx hby d10_139 141 rfl (l' := #[vr (A 0), vi 1, vj 3, ss, vd 4746794007244308480, ss, vd 0, ss, vi 0, vi 0, vi 0, vi a, uu, uu, uu, uu, uu]) rfl ?_
    refine Gol.iload X16 hx hby d10_141 143 rfl rfl ?_
    refine Gol.ifYes X16 hx hby d10_143 154 (by decide) ((if0 _ _).trans (flt (own_in2 ha).1).2.1) ?_
    refine own_turn (xx := a) (c := (sel a dc0 dc1)) hw Zs D G B_A0 E_A0 ⟨_, (V_A2.keep K nn_A2)⟩ ⟨_, (V_A3.keep K nn_A3)⟩ ⟨_, (V_A5.keep K nn_A5)⟩ ⟨_, (V_A6.keep K nn_A6)⟩ ⟨_, V_A7⟩ ⟨_, V_A8⟩ ⟨_, V_A9⟩ ⟨_, (V_A10.keep K nn_A10)⟩ ⟨_, V_A11⟩ ⟨_, V_A12⟩ ⟨_, V_A13⟩ ⟨_, V_A14⟩ ⟨_, V_A15⟩ l2d_zero.symm (jt := (1 : Int32)) (by decide) own_b0 ha hdc0 hdc1 rfl (own_selB hdc0 hdc1) ⟨fun _ => rfl, fun _ => rfl⟩ (own_m00 (own_selB hdc0 hdc1)) (own_mb hM0) (own_mb hM1) hpa (by decide) (Or.inl ⟨rfl, rfl, rfl, rfl, rfl⟩) X16 hx hby hZ hown hml rfl N16 ?_
    intro T17 L17 h17 xp17 xq17 yp17 yq17 gp17 gq17 Mp17 Mq17 Oq17 zp17 zq17 zr17 zs17 X17 e17 N17 Kt B_A0 Q7 Q8 Q9 Q11 Q12 Q13 Q14 Q15 ex ey eg ef eM eN eO
    have E_A0 := E_A0.keep Kt
    have V_A16 := V_A16.keep Kt (nnA D 16 [0, 7, 8, 9, 11, 12, 13, 14, 15] rfl)
    have V_A17 := V_A17.keep Kt (nnA D 17 [0, 7, 8, 9, 11, 12, 13, 14, 15] rfl)
    have K := K.trans Kt (allS (Or.inl (List.mem_of_getElem? (i := 0) rfl)) (allS (Or.inl (List.mem_of_getElem? (i := 1) rfl)) (allS (Or.inl (List.mem_of_getElem? (i := 2) rfl)) (allS (Or.inl (List.mem_of_getElem? (i := 3) rfl)) (allS (Or.inl (List.mem_of_getElem? (i := 4) rfl)) (allS (Or.inl (List.mem_of_getElem? (i := 5) rfl)) (allS (Or.inl (List.mem_of_getElem? (i := 6) rfl)) (allS (Or.inl (List.mem_of_getElem? (i := 7) rfl)) (allS (Or.inl (List.mem_of_getElem? (i := 8) rfl)) all0)))))))))
    have Zs := Nat.le_trans Zs Kt.1
    obtain ⟨k17_A7, V_A7⟩ := Q7
    obtain ⟨k17_A8, V_A8⟩ := Q8
    obtain ⟨k17_A9, V_A9⟩ := Q9
    obtain ⟨k17_A11, V_A11⟩ := Q11
    obtain ⟨k17_A12, V_A12⟩ := Q12
    obtain ⟨k17_A13, V_A13⟩ := Q13
    obtain ⟨k17_A14, V_A14⟩ := Q14
    obtain ⟨k17_A15, V_A15⟩ := Q15
    obtain ⟨hM0, hM1⟩ := own_mr (own_selB hdc0 hdc1) ⟨Int.le_of_lt hpa, hsz a ha⟩ hM0 hM1 eM eN
    have hba := own_nb ha (own_selB hdc0 hdc1) ex ey
    have hBOq17 := own_bO eO
    have hEOq17 := own_en3 eO
    have eO1 := eO
    have eg1 := eg
    have ef1 := ef
    obtain ⟨hra, hrb, hsh⟩ := own_one1 ha (own_selB hdc0 hdc1) eg ef ⟨hpa, hqa⟩
    show GolF _ _ _ _ _ _ _ T17 m 71 #[vr (A 0), vi 1, vj 3, ss, vd 4746794007244308480, ss, vd (FP.l2d Oq17), ss, vi 0, vi 1, vi 0, vi a, vd (FP.l2d (prf a nd0 nd1 tk0 tk1)), ss, vi (sel a dc0 dc1), vd 4607182418800017408, ss] []
    refine Gol.iload X17 hx hby d10_71 73 rfl rfl ?_
    refine Gol.bipush X17 hx hby d10_73 75 rfl (z := (100 : Int32)) rfl ?_
    refine Gol.fB X17 hx hby hZ hown (w 36 _ rfl) e17 B_A0 6 d10_75 d10_76 79 rfl rfl rfl rfl ?_
    intro T18 X18 e18
    refine Gol.imul X18 hx hby d10_79 80 rfl (z := (200 : Int32)) rfl ?_
    refine Gol.icmpNo X18 hx hby d10_80 83 rfl (tlt (by decide : (1 : Int32) < (200 : Int32))).2.1 ?_
    refine Gol.dload X18 hx hby d10_83 85 rfl rfl ?_
    refine Gol.dload X18 hx hby d10_85 87 rfl rfl ?_
    refine Gol.dcmp X18 hx hby d10_87 88 rfl (v := (lcmpW Oq17 2147483647)) (own_en2 hBOq17 _) ?_
    refine Gol.ifNo X18 hx hby d10_88 91 rfl ((if0 _ _).trans (flt hEOq17).2.2.1) ?_
    refine Gol.iload X18 hx hby d10_91 93 rfl rfl ?_
    refine Gol.bipush X18 hx hby d10_93 95 rfl (z := (16 : Int32)) rfl ?_
    refine Gol.icmpYes X18 hx hby d10_95 102 (by decide) (tlt (by decide : (0 : Int32) < (16 : Int32))).1 ?_
    refine Gol.iconst X18 hx hby d10_102 103 rfl (z := (0 : Int32)) rfl ?_
    refine Gol.istore X18 hx hby d10_103 105 rfl (l' := #[vr (A 0), vi 1, vj 3, ss, vd 4746794007244308480, ss, vd (FP.l2d Oq17), ss, vi 0, vi 1, vi 0, vi a, vd (FP.l2d (prf a nd0 nd1 tk0 tk1)), ss, vi (sel a dc0 dc1), vd 4607182418800017408, ss]) rfl ?_
    refine Gol.iload X18 hx hby d10_105 107 rfl rfl ?_
    refine Gol.ifYes X18 hx hby d10_107 118 (by decide) ((if0 _ _).trans (teq (by decide : (0 : Int32) = (0 : Int32))).1) ?_
    refine Gol.aloadN X18 hx hby d10_118 119 rfl rfl rfl ?_
    refine Gol.callQ X18 hx hby hZ hown (z := zM0) 0 [] (a := (A 0)) (w 127 _ rfl) (w 128 _ rfl) (w 101 _ rfl) rfl (w 129 _ rfl) (w 10 _ rfl) (w 130 _ rfl) (by decide) E_A0 (rmBest1 l Z a0 hw []  A pp (0 : Int32) (0 : Int32) ((0 : Int32) + (1 : Int32)) (3 : Int64) (0 : Int32) a (.int 0) (.int 0) (.int 0) (.int 0) (.int 0) (.int 0) (.int 0) xp17 xq17 yp17 yq17 h17 n0 Zs D G B_A0 E_A0 ⟨_, V_A17⟩ ⟨_, V_A7⟩ ha hba) (by decide) (by decide) e18 (by rw [hml]; rfl) (rest := []) (Nat.le_of_eq rfl) (by decide) (by decide) (lenOf pd_11 rfl) rfl d10_119 122 rfl ?_
    intro T19 v19 L19 X19 hQ19
    obtain ⟨rfl, Nq19, eq19⟩ := hQ19
    have N19 := Fr.app N17 Nq19
    show GolF _ _ _ _ _ _ _ T19 m 122 #[vr (A 0), vi 1, vj 3, ss, vd 4746794007244308480, ss, vd (FP.l2d Oq17), ss, vi 0, vi 1, vi 0, vi a, vd (FP.l2d (prf a nd0 nd1 tk0 tk1)), ss, vi (sel a dc0 dc1), vd 4607182418800017408, ss] [(.int (-1))]
    refine Gol.istore X19 hx hby d10_122 124 rfl (l' := #[vr (A 0), vi 1, vj 3, ss, vd 4746794007244308480, ss, vd (FP.l2d Oq17), ss, vi 0, vi 1, vi 0, vi (-1), vd (FP.l2d (prf a nd0 nd1 tk0 tk1)), ss, vi (sel a dc0 dc1), vd 4607182418800017408, ss]) rfl ?_
    refine Gol.iload X19 hx hby d10_124 126 rfl rfl ?_
    refine Gol.ifNo X19 hx hby d10_126 129 rfl ((if0 _ _).trans (tlt (by decide : (-1 : Int32) < (0 : Int32))).2.1) ?_
    refine Gol.iload X19 hx hby d10_129 131 rfl rfl ?_
    refine Gol.ifNo X19 hx hby d10_131 134 rfl ((if0 _ _).trans (teq (by decide : (0 : Int32) = (0 : Int32))).2) ?_
    refine Gol.aloadN X19 hx hby d10_134 135 rfl rfl rfl ?_
    refine Gol.iloadN X19 hx hby d10_135 136 rfl rfl ?_
    refine Gol.callQ X19 hx hby hZ hown (z := zM0) 0 [(.int 1)] (a := (A 0)) (w 132 _ rfl) (w 133 _ rfl) (w 101 _ rfl) rfl (w 134 _ rfl) (w 10 _ rfl) (w 135 _ rfl) (by decide) E_A0 (rmPr1n l Z a0 hw []  A pp (1 : Int32) (0 : Int32) ((0 : Int32) + (1 : Int32)) (0 : Int32) s0 s1 xp17 xq17 yp17 yq17 Mp17 Mq17 a b h17 n0 Zs D G B_A0 E_A0 ⟨_, (V_A1.keep K nn_A1)⟩ ⟨_, V_A7⟩ ⟨_, V_A14⟩ ⟨_, (V_A4.keep K nn_A4)⟩ hM0 hM1 ha hb hba) (by decide) (by decide) eq19 (by rw [hml]; rfl) (rest := []) (Nat.le_of_eq rfl) (by decide) (by decide) (lenOf pd_6 rfl) rfl d10_136 139 rfl ?_
    intro T20 v20 L20 X20 hQ20
    obtain ⟨rfl, Nq20, Kq20, B_A0⟩ := hQ20
    have N20 := Fr.app N19 Nq20
    have E_A0 := E_A0.keep Kq20
    have V_A16 := V_A16.keep Kq20 (nnA D 16 [0] rfl)
    have V_A8 := V_A8.keep Kq20 (nnA D 8 [0] rfl)
    have V_A9 := V_A9.keep Kq20 (nnA D 9 [0] rfl)
    have K := K.trans Kq20 (allS (Or.inl (List.mem_of_getElem? (i := 0) rfl)) all0)
    have Zs := Nat.le_trans Zs Kq20.1
    show GolF _ _ _ _ _ _ _ T20 m 139 #[vr (A 0), vi 1, vj 3, ss, vd 4746794007244308480, ss, vd (FP.l2d Oq17), ss, vi 0, vi 1, vi 0, vi (-1), vd (FP.l2d (prf a nd0 nd1 tk0 tk1)), ss, vi (sel a dc0 dc1), vd 4607182418800017408, ss] [(.int (-1))]
    refine Gol.istore X20 hx hby d10_139 141 rfl (l' := #[vr (A 0), vi 1, vj 3, ss, vd 4746794007244308480, ss, vd (FP.l2d Oq17), ss, vi 0, vi 1, vi 0, vi (-1), vd (FP.l2d (prf a nd0 nd1 tk0 tk1)), ss, vi (sel a dc0 dc1), vd 4607182418800017408, ss]) rfl ?_
    refine Gol.iload X20 hx hby d10_141 143 rfl rfl ?_
    refine Gol.ifNo X20 hx hby d10_143 146 rfl ((if0 _ _).trans (tlt (by decide : (-1 : Int32) < (0 : Int32))).2.1) ?_
    refine Gol.aloadN X20 hx hby d10_146 147 rfl rfl rfl ?_
    refine Gol.iconst X20 hx hby d10_147 148 rfl (z := (1 : Int32)) rfl ?_
    refine Gol.putFN X20 hx hby hZ hown (w 105 _ rfl) Via.refl rfl (B_A0 24 _ _ _ rfl rfl) E_A0 (Or.inl (w 106 _ rfl)) (w 9 _ rfl) (ty := .boolean) (v' := (.int (1 : Int32))) (by decide) rfl (by decide) d10_148 151 rfl ?_
    intro T21 h21 X21 e21 W21
    have E_A0 := E_A0.wr W21
    have V_A16 := V_A16.other W21 (D 16 0 rfl)
    have V_A8 := V_A8.other W21 (D 8 0 rfl)
    have V_A9 := V_A9.other W21 (D 9 0 rfl)
    have K := K.wr W21 (Or.inl (List.mem_of_getElem? (i := 0) rfl))
    have Zs := Nat.le_trans Zs (Keep.of_wr W21).1
    have B_A0 : FL Z h21 (A 0) (rxv A pp (0 : Int32) (0 : Int32) (0 : Int32) ((0 : Int32) + (1 : Int32)) (3 : Int64) (1 : Int32)) := B_A0.put LA (i0 := 24) rfl W21
    have N21 := Fr.snoc X21 N20 (G 0 rfl)
    refine Gol.goto X21 hx hby d10_151 278 (by decide) ?_
    refine Gol.aloadN X21 hx hby d10_278 279 rfl rfl rfl ?_
    refine Gol.callQ X21 hx hby hZ hown (z := zM0) 0 [] (a := (A 0)) (w 156 _ rfl) (w 157 _ rfl) (w 101 _ rfl) rfl (w 158 _ rfl) (w 10 _ rfl) (w 159 _ rfl) (by decide) E_A0 (rmBou l Z a0 hw []  A pp (0 : Int32) (0 : Int32) (0 : Int32) ((0 : Int32) + (1 : Int32)) (1 : Int32) gp17 gq17 (.double 0) (.double 0) nd0 nd1 tk0 tk1 dc0 dc1 h21 n0 Zs D G B_A0 E_A0 ⟨_, V_A8⟩ ⟨_, V_A9⟩ ⟨_, V_A16⟩ ⟨_, (V_A2.keep K nn_A2)⟩ ⟨_, (V_A3.keep K nn_A3)⟩ ⟨_, (V_A5.keep K nn_A5)⟩ ⟨_, (V_A6.keep K nn_A6)⟩ hra hrb) (by decide) (by decide) e21 (by rw [hml]; rfl) (rest := []) (Nat.le_of_eq rfl) (by decide) (by decide) (lenOf pd_10 rfl) rfl d10_279 282 rfl ?_
    intro T22 v22 L22 X22 hQ22
    obtain ⟨⟨zr22, rfl⟩, Nq22, Kq22⟩ := hQ22
    have N22 := Fr.app N21 Nq22
    have B_A0 := B_A0.keep Kq22 (nnA D 0 [16] rfl)
    have V_A8 := V_A8.keep Kq22 (nnA D 8 [16] rfl)
    have V_A9 := V_A9.keep Kq22 (nnA D 9 [16] rfl)
    have K := K.trans Kq22 (allS (Or.inl (List.mem_of_getElem? (i := 9) rfl)) all0)
    show GolF _ _ _ _ _ _ _ T22 m 282 #[vr (A 0), vi 1, vj 3, ss, vd 4746794007244308480, ss, vd (FP.l2d Oq17), ss, vi 0, vi 1, vi 0, vi (-1), vd (FP.l2d (prf a nd0 nd1 tk0 tk1)), ss, vi (sel a dc0 dc1), vd 4607182418800017408, ss] [(.double zr22)]
    exact Gol.retD X22 hx hby Bd.returns Bd.notSynchronized d10_282 rfl ⟨⟨_, rfl⟩, N22, K, ⟨_, _, _, _, _, _, _, B_A0⟩, gp17, gq17, ⟨_, V_A8⟩, ⟨_, V_A9⟩, Or.inr (Or.inl ⟨rfl, hsh⟩)⟩ (by decide) (by decide)
  · skip
    have hba := own_in1 ha
    have hma := own_md (own_selB (c := a) hdc0 hdc1) (own_m00 (own_selB hdc0 hdc1))
    have hbb := own_in1 hb
    have hmb := own_md (own_selB (c := b) hdc0 hdc1) (own_m00 (own_selB hdc0 hdc1))
    show GolF _ _ _ _ _ _ _ T12 m 134 #[vr (A 0), vi 2, vj 3, ss, vd 4746794007244308480, ss, vd 0, ss, vi 0, vi 0, vi 0, vi (-1), uu, uu, uu, uu, uu] []
    refine Gol.aloadN X12 hx hby d10_134 135 rfl rfl rfl ?_
    refine Gol.iloadN X12 hx hby d10_135 136 rfl rfl ?_
    refine Gol.callQ X12 hx hby hZ hown (z := zM0) 0 [(.int 2)] (a := (A 0)) (w 132 _ rfl) (w 133 _ rfl) (w 101 _ rfl) rfl (w 134 _ rfl) (w 10 _ rfl) (w 135 _ rfl) (by decide) E_A0 (rmPr2f l Z a0 hw []  A (0 : Int32) (0 : Int32) (0 : Int32) (0 : Int32) s0 s1 (-1) (-1) 0 1 0 0 a b nd0 nd1 tk0 tk1 dc0 dc1 (.int 0) (.int 0) (.int 0) (.int 0) (.int 0) (.int 0) (.int 0) (.int 0) (.double 0) (.double 0) (.double 0) (.double 0) (.double 0) (.double 0) (.double 0) (.double 0) h10 n0 Zs D G B_A0 E_A0 ⟨_, (V_A1.keep K nn_A1)⟩ ⟨_, V_A7⟩ ⟨_, V_A14⟩ ⟨_, (V_A4.keep K nn_A4)⟩ ⟨_, (V_A2.keep K nn_A2)⟩ ⟨_, (V_A3.keep K nn_A3)⟩ ⟨_, (V_A5.keep K nn_A5)⟩ ⟨_, (V_A6.keep K nn_A6)⟩ ⟨_, V_A17⟩ ⟨_, V_A18⟩ hM0 hM1 ha hb hba hdc0 hdc1 hma hpa) (by decide) (by decide) eq12 (by rw [hml]; rfl) (rest := []) (Nat.le_of_eq rfl) (by decide) (by decide) (lenOf pd_6 rfl) rfl d10_136 139 rfl ?_
    intro T23 v23 L23 X23 hQ23
    obtain ⟨rfl, Nq23, Kq23, B_A0, ⟨k23_A17, V_A17⟩, ⟨k23_A18, V_A18⟩⟩ := hQ23
    have N23 := Fr.app N12 Nq23
    have E_A0 := E_A0.keep Kq23
    have V_A7 := V_A7.keep Kq23 (nnA D 7 [0, 17, 18] rfl)
    have V_A8 := V_A8.keep Kq23 (nnA D 8 [0, 17, 18] rfl)
    have V_A9 := V_A9.keep Kq23 (nnA D 9 [0, 17, 18] rfl)
    have V_A11 := V_A11.keep Kq23 (nnA D 11 [0, 17, 18] rfl)
    have V_A12 := V_A12.keep Kq23 (nnA D 12 [0, 17, 18] rfl)
    have V_A15 := V_A15.keep Kq23 (nnA D 15 [0, 17, 18] rfl)
    have V_A16 := V_A16.keep Kq23 (nnA D 16 [0, 17, 18] rfl)
    have V_A13 := V_A13.keep Kq23 (nnA D 13 [0, 17, 18] rfl)
    have V_A14 := V_A14.keep Kq23 (nnA D 14 [0, 17, 18] rfl)
    have K := K.trans Kq23 (allS (Or.inl (List.mem_of_getElem? (i := 0) rfl)) (allS (Or.inl (List.mem_of_getElem? (i := 10) rfl)) (allS (Or.inl (List.mem_of_getElem? (i := 11) rfl)) all0)))
    have Zs := Nat.le_trans Zs Kq23.1
    show GolF _ _ _ _ _ _ _ T23 m 139 #[vr (A 0), vi 2, vj 3, ss, vd 4746794007244308480, ss, vd 0, ss, vi 0, vi 0, vi 0, vi (-1), uu, uu, uu, uu, uu] [(.int a)]
    refine Gol.istore X23 hx hby d10_139 141 rfl (l' := #[vr (A 0), vi 2, vj 3, ss, vd 4746794007244308480, ss, vd 0, ss, vi 0, vi 0, vi 0, vi a, uu, uu, uu, uu, uu]) rfl ?_
    refine Gol.iload X23 hx hby d10_141 143 rfl rfl ?_
    refine Gol.ifYes X23 hx hby d10_143 154 (by decide) ((if0 _ _).trans (flt (own_in2 ha).1).2.1) ?_
    refine own_turn (xx := a) (c := (sel a dc0 dc1)) hw Zs D G B_A0 E_A0 ⟨_, (V_A2.keep K nn_A2)⟩ ⟨_, (V_A3.keep K nn_A3)⟩ ⟨_, (V_A5.keep K nn_A5)⟩ ⟨_, (V_A6.keep K nn_A6)⟩ ⟨_, V_A7⟩ ⟨_, V_A8⟩ ⟨_, V_A9⟩ ⟨_, (V_A10.keep K nn_A10)⟩ ⟨_, V_A11⟩ ⟨_, V_A12⟩ ⟨_, V_A13⟩ ⟨_, V_A14⟩ ⟨_, V_A15⟩ l2d_zero.symm (jt := (1 : Int32)) (by decide) own_b0 ha hdc0 hdc1 rfl (own_selB hdc0 hdc1) ⟨fun _ => rfl, fun _ => rfl⟩ (own_m00 (own_selB hdc0 hdc1)) (own_mb hM0) (own_mb hM1) hpa (by decide) (Or.inl ⟨rfl, rfl, rfl, rfl, rfl⟩) X23 hx hby hZ hown hml rfl N23 ?_
    intro T24 L24 h24 xp24 xq24 yp24 yq24 gp24 gq24 Mp24 Mq24 Oq24 zp24 zq24 zr24 zs24 X24 e24 N24 Kt B_A0 Q7 Q8 Q9 Q11 Q12 Q13 Q14 Q15 ex ey eg ef eM eN eO
    have E_A0 := E_A0.keep Kt
    have V_A16 := V_A16.keep Kt (nnA D 16 [0, 7, 8, 9, 11, 12, 13, 14, 15] rfl)
    have V_A17 := V_A17.keep Kt (nnA D 17 [0, 7, 8, 9, 11, 12, 13, 14, 15] rfl)
    have V_A18 := V_A18.keep Kt (nnA D 18 [0, 7, 8, 9, 11, 12, 13, 14, 15] rfl)
    have K := K.trans Kt (allS (Or.inl (List.mem_of_getElem? (i := 0) rfl)) (allS (Or.inl (List.mem_of_getElem? (i := 1) rfl)) (allS (Or.inl (List.mem_of_getElem? (i := 2) rfl)) (allS (Or.inl (List.mem_of_getElem? (i := 3) rfl)) (allS (Or.inl (List.mem_of_getElem? (i := 4) rfl)) (allS (Or.inl (List.mem_of_getElem? (i := 5) rfl)) (allS (Or.inl (List.mem_of_getElem? (i := 6) rfl)) (allS (Or.inl (List.mem_of_getElem? (i := 7) rfl)) (allS (Or.inl (List.mem_of_getElem? (i := 8) rfl)) all0)))))))))
    have Zs := Nat.le_trans Zs Kt.1
    obtain ⟨k24_A7, V_A7⟩ := Q7
    obtain ⟨k24_A8, V_A8⟩ := Q8
    obtain ⟨k24_A9, V_A9⟩ := Q9
    obtain ⟨k24_A11, V_A11⟩ := Q11
    obtain ⟨k24_A12, V_A12⟩ := Q12
    obtain ⟨k24_A13, V_A13⟩ := Q13
    obtain ⟨k24_A14, V_A14⟩ := Q14
    obtain ⟨k24_A15, V_A15⟩ := Q15
    obtain ⟨hM0, hM1⟩ := own_mr (own_selB hdc0 hdc1) ⟨Int.le_of_lt hpa, hsz a ha⟩ hM0 hM1 eM eN
    have hba := own_nb ha (own_selB hdc0 hdc1) ex ey
    have hBOq24 := own_bO eO
    have hEOq24 := own_en3 eO
    have eO1 := eO
    have eg1 := eg
    have ef1 := ef
    have hcn := own_cne ha hb hab hdd
    have hbb : sel b xp24 xq24 < 0 := by rw [own_ob ha hb hab ex ey]; exact own_in1 hb
    have hm2 := own_mz (own_selB hdc0 hdc1) (own_selB hdc0 hdc1) hcn eM eN
    have hmb := own_md (own_selB hdc0 hdc1) hm2
    have hg2 := own_gy (own_selB hdc0 hdc1) hcn eg ef
    show GolF _ _ _ _ _ _ _ T24 m 71 #[vr (A 0), vi 2, vj 3, ss, vd 4746794007244308480, ss, vd (FP.l2d Oq24), ss, vi 0, vi 1, vi 0, vi a, vd (FP.l2d (prf a nd0 nd1 tk0 tk1)), ss, vi (sel a dc0 dc1), vd 4607182418800017408, ss] []
    refine Gol.iload X24 hx hby d10_71 73 rfl rfl ?_
    refine Gol.bipush X24 hx hby d10_73 75 rfl (z := (100 : Int32)) rfl ?_
    refine Gol.fB X24 hx hby hZ hown (w 36 _ rfl) e24 B_A0 6 d10_75 d10_76 79 rfl rfl rfl rfl ?_
    intro T25 X25 e25
    refine Gol.imul X25 hx hby d10_79 80 rfl (z := (200 : Int32)) rfl ?_
    refine Gol.icmpNo X25 hx hby d10_80 83 rfl (tlt (by decide : (1 : Int32) < (200 : Int32))).2.1 ?_
    refine Gol.dload X25 hx hby d10_83 85 rfl rfl ?_
    refine Gol.dload X25 hx hby d10_85 87 rfl rfl ?_
    refine Gol.dcmp X25 hx hby d10_87 88 rfl (v := (lcmpW Oq24 2147483647)) (own_en2 hBOq24 _) ?_
    refine Gol.ifNo X25 hx hby d10_88 91 rfl ((if0 _ _).trans (flt hEOq24).2.2.1) ?_
    refine Gol.iload X25 hx hby d10_91 93 rfl rfl ?_
    refine Gol.bipush X25 hx hby d10_93 95 rfl (z := (16 : Int32)) rfl ?_
    refine Gol.icmpYes X25 hx hby d10_95 102 (by decide) (tlt (by decide : (0 : Int32) < (16 : Int32))).1 ?_
    refine Gol.iconst X25 hx hby d10_102 103 rfl (z := (0 : Int32)) rfl ?_
    refine Gol.istore X25 hx hby d10_103 105 rfl (l' := #[vr (A 0), vi 2, vj 3, ss, vd 4746794007244308480, ss, vd (FP.l2d Oq24), ss, vi 0, vi 1, vi 0, vi a, vd (FP.l2d (prf a nd0 nd1 tk0 tk1)), ss, vi (sel a dc0 dc1), vd 4607182418800017408, ss]) rfl ?_
    refine Gol.iload X25 hx hby d10_105 107 rfl rfl ?_
    refine Gol.ifYes X25 hx hby d10_107 118 (by decide) ((if0 _ _).trans (teq (by decide : (0 : Int32) = (0 : Int32))).1) ?_
    refine Gol.aloadN X25 hx hby d10_118 119 rfl rfl rfl ?_
    refine Gol.callQ X25 hx hby hZ hown (z := zM0) 0 [] (a := (A 0)) (w 127 _ rfl) (w 128 _ rfl) (w 101 _ rfl) rfl (w 129 _ rfl) (w 10 _ rfl) (w 130 _ rfl) (by decide) E_A0 (rmBest1 l Z a0 hw []  A (1 : Int32) (1 : Int32) (0 : Int32) ((0 : Int32) + (1 : Int32)) (3 : Int64) (0 : Int32) a (.int 0) (.int 0) (.int 0) (.int 0) (.int 0) (.int 0) (.int 0) xp24 xq24 yp24 yq24 h24 n0 Zs D G B_A0 E_A0 ⟨_, V_A17⟩ ⟨_, V_A7⟩ ha hba) (by decide) (by decide) e25 (by rw [hml]; rfl) (rest := []) (Nat.le_of_eq rfl) (by decide) (by decide) (lenOf pd_11 rfl) rfl d10_119 122 rfl ?_
    intro T26 v26 L26 X26 hQ26
    obtain ⟨rfl, Nq26, eq26⟩ := hQ26
    have N26 := Fr.app N24 Nq26
    show GolF _ _ _ _ _ _ _ T26 m 122 #[vr (A 0), vi 2, vj 3, ss, vd 4746794007244308480, ss, vd (FP.l2d Oq24), ss, vi 0, vi 1, vi 0, vi a, vd (FP.l2d (prf a nd0 nd1 tk0 tk1)), ss, vi (sel a dc0 dc1), vd 4607182418800017408, ss] [(.int (-1))]
    refine Gol.istore X26 hx hby d10_122 124 rfl (l' := #[vr (A 0), vi 2, vj 3, ss, vd 4746794007244308480, ss, vd (FP.l2d Oq24), ss, vi 0, vi 1, vi 0, vi (-1), vd (FP.l2d (prf a nd0 nd1 tk0 tk1)), ss, vi (sel a dc0 dc1), vd 4607182418800017408, ss]) rfl ?_
    refine Gol.iload X26 hx hby d10_124 126 rfl rfl ?_
    refine Gol.ifNo X26 hx hby d10_126 129 rfl ((if0 _ _).trans (tlt (by decide : (-1 : Int32) < (0 : Int32))).2.1) ?_
    refine Gol.iload X26 hx hby d10_129 131 rfl rfl ?_
    refine Gol.ifNo X26 hx hby d10_131 134 rfl ((if0 _ _).trans (teq (by decide : (0 : Int32) = (0 : Int32))).2) ?_
    refine Gol.aloadN X26 hx hby d10_134 135 rfl rfl rfl ?_
    refine Gol.iloadN X26 hx hby d10_135 136 rfl rfl ?_
    refine Gol.callQ X26 hx hby hZ hown (z := zM0) 0 [(.int 2)] (a := (A 0)) (w 132 _ rfl) (w 133 _ rfl) (w 101 _ rfl) rfl (w 134 _ rfl) (w 10 _ rfl) (w 135 _ rfl) (by decide) E_A0 (rmPr2s l Z a0 hw []  A (1 : Int32) (0 : Int32) ((0 : Int32) + (1 : Int32)) (0 : Int32) s0 s1 xp24 xq24 yp24 yq24 Mp24 Mq24 a b nd0 nd1 tk0 tk1 dc0 dc1 (.int a) (.int 0) (.int 0) (.int 0) (.int 0) (.int 0) (.int 0) (.int 0) (.double (FP.l2d (prf a nd0 nd1 tk0 tk1))) (.double 0) (.double 0) (.double 0) (.double 0) (.double 0) (.double 0) (.double 0) h24 n0 Zs D G B_A0 E_A0 ⟨_, (V_A1.keep K nn_A1)⟩ ⟨_, V_A7⟩ ⟨_, V_A14⟩ ⟨_, (V_A4.keep K nn_A4)⟩ ⟨_, (V_A2.keep K nn_A2)⟩ ⟨_, (V_A3.keep K nn_A3)⟩ ⟨_, (V_A5.keep K nn_A5)⟩ ⟨_, (V_A6.keep K nn_A6)⟩ ⟨_, V_A17⟩ ⟨_, V_A18⟩ hM0 hM1 ha hb hbb hdc0 hdc1 hmb hpb) (by decide) (by decide) eq26 (by rw [hml]; rfl) (rest := []) (Nat.le_of_eq rfl) (by decide) (by decide) (lenOf pd_6 rfl) rfl d10_136 139 rfl ?_
    intro T27 v27 L27 X27 hQ27
    obtain ⟨rfl, Nq27, Kq27, B_A0, ⟨k27_A17, V_A17⟩, ⟨k27_A18, V_A18⟩⟩ := hQ27
    have N27 := Fr.app N26 Nq27
    have E_A0 := E_A0.keep Kq27
    have V_A16 := V_A16.keep Kq27 (nnA D 16 [0, 17, 18] rfl)
    have V_A7 := V_A7.keep Kq27 (nnA D 7 [0, 17, 18] rfl)
    have V_A8 := V_A8.keep Kq27 (nnA D 8 [0, 17, 18] rfl)
    have V_A9 := V_A9.keep Kq27 (nnA D 9 [0, 17, 18] rfl)
    have V_A11 := V_A11.keep Kq27 (nnA D 11 [0, 17, 18] rfl)
    have V_A12 := V_A12.keep Kq27 (nnA D 12 [0, 17, 18] rfl)
    have V_A13 := V_A13.keep Kq27 (nnA D 13 [0, 17, 18] rfl)
    have V_A14 := V_A14.keep Kq27 (nnA D 14 [0, 17, 18] rfl)
    have V_A15 := V_A15.keep Kq27 (nnA D 15 [0, 17, 18] rfl)
    have K := K.trans Kq27 (allS (Or.inl (List.mem_of_getElem? (i := 0) rfl)) (allS (Or.inl (List.mem_of_getElem? (i := 10) rfl)) (allS (Or.inl (List.mem_of_getElem? (i := 11) rfl)) all0)))
    have Zs := Nat.le_trans Zs Kq27.1
    show GolF _ _ _ _ _ _ _ T27 m 139 #[vr (A 0), vi 2, vj 3, ss, vd 4746794007244308480, ss, vd (FP.l2d Oq24), ss, vi 0, vi 1, vi 0, vi (-1), vd (FP.l2d (prf a nd0 nd1 tk0 tk1)), ss, vi (sel a dc0 dc1), vd 4607182418800017408, ss] [(.int b)]
    refine Gol.istore X27 hx hby d10_139 141 rfl (l' := #[vr (A 0), vi 2, vj 3, ss, vd 4746794007244308480, ss, vd (FP.l2d Oq24), ss, vi 0, vi 1, vi 0, vi b, vd (FP.l2d (prf a nd0 nd1 tk0 tk1)), ss, vi (sel a dc0 dc1), vd 4607182418800017408, ss]) rfl ?_
    refine Gol.iload X27 hx hby d10_141 143 rfl rfl ?_
    refine Gol.ifYes X27 hx hby d10_143 154 (by decide) ((if0 _ _).trans (flt (own_in2 hb).1).2.1) ?_
    refine own_turn (xx := b) (c := (sel b dc0 dc1)) hw Zs D G B_A0 E_A0 ⟨_, (V_A2.keep K nn_A2)⟩ ⟨_, (V_A3.keep K nn_A3)⟩ ⟨_, (V_A5.keep K nn_A5)⟩ ⟨_, (V_A6.keep K nn_A6)⟩ ⟨_, V_A7⟩ ⟨_, V_A8⟩ ⟨_, V_A9⟩ ⟨_, (V_A10.keep K nn_A10)⟩ ⟨_, V_A11⟩ ⟨_, V_A12⟩ ⟨_, V_A13⟩ ⟨_, V_A14⟩ ⟨_, V_A15⟩ rfl (jt := (2 : Int32)) (by decide) hBOq24 hb hdc0 hdc1 rfl (own_selB hdc0 hdc1) hg2 hm2 (own_mb hM0) (own_mb hM1) hpb (by decide) (Or.inr ⟨_, _, _, rfl, rfl, rfl, rfl, rfl⟩) X27 hx hby hZ hown hml rfl N27 ?_
    intro T28 L28 h28 xp28 xq28 yp28 yq28 gp28 gq28 Mp28 Mq28 Oq28 zp28 zq28 zr28 zs28 X28 e28 N28 Kt B_A0 Q7 Q8 Q9 Q11 Q12 Q13 Q14 Q15 ex ey eg ef eM eN eO
    have E_A0 := E_A0.keep Kt
    have V_A16 := V_A16.keep Kt (nnA D 16 [0, 7, 8, 9, 11, 12, 13, 14, 15] rfl)
    have V_A17 := V_A17.keep Kt (nnA D 17 [0, 7, 8, 9, 11, 12, 13, 14, 15] rfl)
    have K := K.trans Kt (allS (Or.inl (List.mem_of_getElem? (i := 0) rfl)) (allS (Or.inl (List.mem_of_getElem? (i := 1) rfl)) (allS (Or.inl (List.mem_of_getElem? (i := 2) rfl)) (allS (Or.inl (List.mem_of_getElem? (i := 3) rfl)) (allS (Or.inl (List.mem_of_getElem? (i := 4) rfl)) (allS (Or.inl (List.mem_of_getElem? (i := 5) rfl)) (allS (Or.inl (List.mem_of_getElem? (i := 6) rfl)) (allS (Or.inl (List.mem_of_getElem? (i := 7) rfl)) (allS (Or.inl (List.mem_of_getElem? (i := 8) rfl)) all0)))))))))
    have Zs := Nat.le_trans Zs Kt.1
    obtain ⟨k28_A7, V_A7⟩ := Q7
    obtain ⟨k28_A8, V_A8⟩ := Q8
    obtain ⟨k28_A9, V_A9⟩ := Q9
    obtain ⟨k28_A11, V_A11⟩ := Q11
    obtain ⟨k28_A12, V_A12⟩ := Q12
    obtain ⟨k28_A13, V_A13⟩ := Q13
    obtain ⟨k28_A14, V_A14⟩ := Q14
    obtain ⟨k28_A15, V_A15⟩ := Q15
    obtain ⟨hM0, hM1⟩ := own_mr (own_selB hdc0 hdc1) ⟨Int.le_of_lt hpb, hsz b hb⟩ hM0 hM1 eM eN
    have hBOq28 := own_bO2 eO1 eO
    have hba : ¬ sel a xp28 xq28 < 0 := by rw [own_ob hb ha hab.symm ex ey]; exact hba
    have hbb := own_nb hb (own_selB hdc0 hdc1) ex ey
    obtain ⟨hF2, hsh⟩ := own_fin2 (nd0 := nd0) (nd1 := nd1) (tk0 := tk0) (tk1 := tk1) ha hb (own_selB hdc0 hdc1) (own_selB hdc0 hdc1) hcn ⟨hpa, hqa⟩ ⟨hpb, hqb⟩ eg1 ef1 eg ef
    obtain ⟨hga, hgb, hca, hcb, hsa, hsb⟩ := hF2
    show GolF _ _ _ _ _ _ _ T28 m 71 #[vr (A 0), vi 2, vj 3, ss, vd 4746794007244308480, ss, vd (FP.l2d Oq28), ss, vi 0, vi 2, vi 0, vi b, vd (FP.l2d (prf b nd0 nd1 tk0 tk1)), ss, vi (sel b dc0 dc1), vd 4607182418800017408, ss] []
    refine Gol.iload X28 hx hby d10_71 73 rfl rfl ?_
    refine Gol.bipush X28 hx hby d10_73 75 rfl (z := (100 : Int32)) rfl ?_
    refine Gol.fB X28 hx hby hZ hown (w 36 _ rfl) e28 B_A0 6 d10_75 d10_76 79 rfl rfl rfl rfl ?_
    intro T29 X29 e29
    refine Gol.imul X29 hx hby d10_79 80 rfl (z := (200 : Int32)) rfl ?_
    refine Gol.icmpNo X29 hx hby d10_80 83 rfl (tlt (by decide : (2 : Int32) < (200 : Int32))).2.1 ?_
    refine Gol.dload X29 hx hby d10_83 85 rfl rfl ?_
    refine Gol.dload X29 hx hby d10_85 87 rfl rfl ?_
    refine Gol.dcmp X29 hx hby d10_87 88 rfl (v := (lcmpW Oq28 2147483647)) (own_en2 hBOq28 _) ?_
    by_cases hc88_30 : (0 : Int32) < (lcmpW Oq28 2147483647)
    · skip
      refine Gol.ifYes X29 hx hby d10_88 278 (by decide) ((if0 _ _).trans (tlt hc88_30).2.2.1) ?_
      refine Gol.aloadN X29 hx hby d10_278 279 rfl rfl rfl ?_
      refine Gol.callQ X29 hx hby hZ hown (z := zM0) 0 [] (a := (A 0)) (w 156 _ rfl) (w 157 _ rfl) (w 101 _ rfl) rfl (w 158 _ rfl) (w 10 _ rfl) (w 159 _ rfl) (by decide) E_A0 (rmBou l Z a0 hw []  A (1 : Int32) (1 : Int32) (0 : Int32) (0 : Int32) (((0 : Int32) + (1 : Int32)) + (1 : Int32)) (0 : Int32) gp28 gq28 (.double 0) (.double 0) nd0 nd1 tk0 tk1 dc0 dc1 h28 n0 Zs D G B_A0 E_A0 ⟨_, V_A8⟩ ⟨_, V_A9⟩ ⟨_, V_A16⟩ ⟨_, (V_A2.keep K nn_A2)⟩ ⟨_, (V_A3.keep K nn_A3)⟩ ⟨_, (V_A5.keep K nn_A5)⟩ ⟨_, (V_A6.keep K nn_A6)⟩ (Or.inr ⟨hga, hca, hsa⟩) (Or.inr ⟨hgb, hcb, hsb⟩)) (by decide) (by decide) e29 (by rw [hml]; rfl) (rest := []) (Nat.le_of_eq rfl) (by decide) (by decide) (lenOf pd_10 rfl) rfl d10_279 282 rfl ?_
      intro T31 v31 L31 X31 hQ31
      obtain ⟨⟨zr31, rfl⟩, Nq31, Kq31⟩ := hQ31
      have N31 := Fr.app N28 Nq31
      have B_A0 := B_A0.keep Kq31 (nnA D 0 [16] rfl)
      have V_A8 := V_A8.keep Kq31 (nnA D 8 [16] rfl)
      have V_A9 := V_A9.keep Kq31 (nnA D 9 [16] rfl)
      have K := K.trans Kq31 (allS (Or.inl (List.mem_of_getElem? (i := 9) rfl)) all0)
      show GolF _ _ _ _ _ _ _ T31 m 282 #[vr (A 0), vi 2, vj 3, ss, vd 4746794007244308480, ss, vd (FP.l2d Oq28), ss, vi 0, vi 2, vi 0, vi b, vd (FP.l2d (prf b nd0 nd1 tk0 tk1)), ss, vi (sel b dc0 dc1), vd 4607182418800017408, ss] [(.double zr31)]
      exact Gol.retD X31 hx hby Bd.returns Bd.notSynchronized d10_282 rfl ⟨⟨_, rfl⟩, N31, K, ⟨_, _, _, _, _, _, _, B_A0⟩, gp28, gq28, ⟨_, V_A8⟩, ⟨_, V_A9⟩, Or.inr (Or.inr ⟨rfl, hsh⟩)⟩ (by decide) (by decide)
    · skip
      refine Gol.ifNo X29 hx hby d10_88 91 rfl ((if0 _ _).trans (flt hc88_30).2.2.1) ?_
      refine Gol.iload X29 hx hby d10_91 93 rfl rfl ?_
      refine Gol.bipush X29 hx hby d10_93 95 rfl (z := (16 : Int32)) rfl ?_
      refine Gol.icmpYes X29 hx hby d10_95 102 (by decide) (tlt (by decide : (0 : Int32) < (16 : Int32))).1 ?_
      refine Gol.iconst X29 hx hby d10_102 103 rfl (z := (0 : Int32)) rfl ?_
      refine Gol.istore X29 hx hby d10_103 105 rfl (l' := #[vr (A 0), vi 2, vj 3, ss, vd 4746794007244308480, ss, vd (FP.l2d Oq28), ss, vi 0, vi 2, vi 0, vi b, vd (FP.l2d (prf b nd0 nd1 tk0 tk1)), ss, vi (sel b dc0 dc1), vd 4607182418800017408, ss]) rfl ?_
      refine Gol.iload X29 hx hby d10_105 107 rfl rfl ?_
      refine Gol.ifYes X29 hx hby d10_107 118 (by decide) ((if0 _ _).trans (teq (by decide : (0 : Int32) = (0 : Int32))).1) ?_
      refine Gol.aloadN X29 hx hby d10_118 119 rfl rfl rfl ?_
      refine Gol.callQ X29 hx hby hZ hown (z := zM0) 0 [] (a := (A 0)) (w 127 _ rfl) (w 128 _ rfl) (w 101 _ rfl) rfl (w 129 _ rfl) (w 10 _ rfl) (w 130 _ rfl) (by decide) E_A0 (rmBest1 l Z a0 hw []  A (1 : Int32) (0 : Int32) (0 : Int32) (((0 : Int32) + (1 : Int32)) + (1 : Int32)) (3 : Int64) (0 : Int32) b (.int 0) (.int 0) (.int 0) (.int 0) (.int 0) (.int 0) (.int 0) xp28 xq28 yp28 yq28 h28 n0 Zs D G B_A0 E_A0 ⟨_, V_A17⟩ ⟨_, V_A7⟩ hb hbb) (by decide) (by decide) e29 (by rw [hml]; rfl) (rest := []) (Nat.le_of_eq rfl) (by decide) (by decide) (lenOf pd_11 rfl) rfl d10_119 122 rfl ?_
      intro T32 v32 L32 X32 hQ32
      obtain ⟨rfl, Nq32, eq32⟩ := hQ32
      have N32 := Fr.app N28 Nq32
      show GolF _ _ _ _ _ _ _ T32 m 122 #[vr (A 0), vi 2, vj 3, ss, vd 4746794007244308480, ss, vd (FP.l2d Oq28), ss, vi 0, vi 2, vi 0, vi b, vd (FP.l2d (prf b nd0 nd1 tk0 tk1)), ss, vi (sel b dc0 dc1), vd 4607182418800017408, ss] [(.int (-1))]
      refine Gol.istore X32 hx hby d10_122 124 rfl (l' := #[vr (A 0), vi 2, vj 3, ss, vd 4746794007244308480, ss, vd (FP.l2d Oq28), ss, vi 0, vi 2, vi 0, vi (-1), vd (FP.l2d (prf b nd0 nd1 tk0 tk1)), ss, vi (sel b dc0 dc1), vd 4607182418800017408, ss]) rfl ?_
      refine Gol.iload X32 hx hby d10_124 126 rfl rfl ?_
      refine Gol.ifNo X32 hx hby d10_126 129 rfl ((if0 _ _).trans (tlt (by decide : (-1 : Int32) < (0 : Int32))).2.1) ?_
      refine Gol.iload X32 hx hby d10_129 131 rfl rfl ?_
      refine Gol.ifNo X32 hx hby d10_131 134 rfl ((if0 _ _).trans (teq (by decide : (0 : Int32) = (0 : Int32))).2) ?_
      refine Gol.aloadN X32 hx hby d10_134 135 rfl rfl rfl ?_
      refine Gol.iloadN X32 hx hby d10_135 136 rfl rfl ?_
      refine Gol.callQ X32 hx hby hZ hown (z := zM0) 0 [(.int 2)] (a := (A 0)) (w 132 _ rfl) (w 133 _ rfl) (w 101 _ rfl) rfl (w 134 _ rfl) (w 10 _ rfl) (w 135 _ rfl) (by decide) E_A0 (rmPr2n l Z a0 hw []  A (1 : Int32) (1 : Int32) (0 : Int32) (((0 : Int32) + (1 : Int32)) + (1 : Int32)) (0 : Int32) s0 s1 xp28 xq28 yp28 yq28 Mp28 Mq28 a b h28 n0 Zs D G B_A0 E_A0 ⟨_, (V_A1.keep K nn_A1)⟩ ⟨_, V_A7⟩ ⟨_, V_A14⟩ ⟨_, (V_A4.keep K nn_A4)⟩ hM0 hM1 ha hb hba hbb) (by decide) (by decide) eq32 (by rw [hml]; rfl) (rest := []) (Nat.le_of_eq rfl) (by decide) (by decide) (lenOf pd_6 rfl) rfl d10_136 139 rfl ?_
      intro T33 v33 L33 X33 hQ33
      obtain ⟨rfl, Nq33, Kq33, B_A0⟩ := hQ33
      have N33 := Fr.app N32 Nq33
      have E_A0 := E_A0.keep Kq33
      have V_A16 := V_A16.keep Kq33 (nnA D 16 [0] rfl)
      have V_A8 := V_A8.keep Kq33 (nnA D 8 [0] rfl)
      have V_A9 := V_A9.keep Kq33 (nnA D 9 [0] rfl)
      have K := K.trans Kq33 (allS (Or.inl (List.mem_of_getElem? (i := 0) rfl)) all0)
      have Zs := Nat.le_trans Zs Kq33.1
      show GolF _ _ _ _ _ _ _ T33 m 139 #[vr (A 0), vi 2, vj 3, ss, vd 4746794007244308480, ss, vd (FP.l2d Oq28), ss, vi 0, vi 2, vi 0, vi (-1), vd (FP.l2d (prf b nd0 nd1 tk0 tk1)), ss, vi (sel b dc0 dc1), vd 4607182418800017408, ss] [(.int (-1))]
      refine Gol.istore X33 hx hby d10_139 141 rfl (l' := #[vr (A 0), vi 2, vj 3, ss, vd 4746794007244308480, ss, vd (FP.l2d Oq28), ss, vi 0, vi 2, vi 0, vi (-1), vd (FP.l2d (prf b nd0 nd1 tk0 tk1)), ss, vi (sel b dc0 dc1), vd 4607182418800017408, ss]) rfl ?_
      refine Gol.iload X33 hx hby d10_141 143 rfl rfl ?_
      refine Gol.ifNo X33 hx hby d10_143 146 rfl ((if0 _ _).trans (tlt (by decide : (-1 : Int32) < (0 : Int32))).2.1) ?_
      refine Gol.aloadN X33 hx hby d10_146 147 rfl rfl rfl ?_
      refine Gol.iconst X33 hx hby d10_147 148 rfl (z := (1 : Int32)) rfl ?_
      refine Gol.putFN X33 hx hby hZ hown (w 105 _ rfl) Via.refl rfl (B_A0 24 _ _ _ rfl rfl) E_A0 (Or.inl (w 106 _ rfl)) (w 9 _ rfl) (ty := .boolean) (v' := (.int (1 : Int32))) (by decide) rfl (by decide) d10_148 151 rfl ?_
      intro T34 h34 X34 e34 W34
      have E_A0 := E_A0.wr W34
      have V_A16 := V_A16.other W34 (D 16 0 rfl)
      have V_A8 := V_A8.other W34 (D 8 0 rfl)
      have V_A9 := V_A9.other W34 (D 9 0 rfl)
      have K := K.wr W34 (Or.inl (List.mem_of_getElem? (i := 0) rfl))
      have Zs := Nat.le_trans Zs (Keep.of_wr W34).1
      have B_A0 : FL Z h34 (A 0) (rxv A (1 : Int32) (0 : Int32) (0 : Int32) (0 : Int32) (((0 : Int32) + (1 : Int32)) + (1 : Int32)) (3 : Int64) (1 : Int32)) := B_A0.put LA (i0 := 24) rfl W34
      have N34 := Fr.snoc X34 N33 (G 0 rfl)
      refine Gol.goto X34 hx hby d10_151 278 (by decide) ?_
      refine Gol.aloadN X34 hx hby d10_278 279 rfl rfl rfl ?_
      refine Gol.callQ X34 hx hby hZ hown (z := zM0) 0 [] (a := (A 0)) (w 156 _ rfl) (w 157 _ rfl) (w 101 _ rfl) rfl (w 158 _ rfl) (w 10 _ rfl) (w 159 _ rfl) (by decide) E_A0 (rmBou l Z a0 hw []  A (1 : Int32) (0 : Int32) (0 : Int32) (0 : Int32) (((0 : Int32) + (1 : Int32)) + (1 : Int32)) (1 : Int32) gp28 gq28 (.double 0) (.double 0) nd0 nd1 tk0 tk1 dc0 dc1 h34 n0 Zs D G B_A0 E_A0 ⟨_, V_A8⟩ ⟨_, V_A9⟩ ⟨_, V_A16⟩ ⟨_, (V_A2.keep K nn_A2)⟩ ⟨_, (V_A3.keep K nn_A3)⟩ ⟨_, (V_A5.keep K nn_A5)⟩ ⟨_, (V_A6.keep K nn_A6)⟩ (Or.inr ⟨hga, hca, hsa⟩) (Or.inr ⟨hgb, hcb, hsb⟩)) (by decide) (by decide) e34 (by rw [hml]; rfl) (rest := []) (Nat.le_of_eq rfl) (by decide) (by decide) (lenOf pd_10 rfl) rfl d10_279 282 rfl ?_
      intro T35 v35 L35 X35 hQ35
      obtain ⟨⟨zr35, rfl⟩, Nq35, Kq35⟩ := hQ35
      have N35 := Fr.app N34 Nq35
      have B_A0 := B_A0.keep Kq35 (nnA D 0 [16] rfl)
      have V_A8 := V_A8.keep Kq35 (nnA D 8 [16] rfl)
      have V_A9 := V_A9.keep Kq35 (nnA D 9 [16] rfl)
      have K := K.trans Kq35 (allS (Or.inl (List.mem_of_getElem? (i := 9) rfl)) all0)
      show GolF _ _ _ _ _ _ _ T35 m 282 #[vr (A 0), vi 2, vj 3, ss, vd 4746794007244308480, ss, vd (FP.l2d Oq28), ss, vi 0, vi 2, vi 0, vi (-1), vd (FP.l2d (prf b nd0 nd1 tk0 tk1)), ss, vi (sel b dc0 dc1), vd 4607182418800017408, ss] [(.double zr35)]
      exact Gol.retD X35 hx hby Bd.returns Bd.notSynchronized d10_282 rfl ⟨⟨_, rfl⟩, N35, K, ⟨_, _, _, _, _, _, _, B_A0⟩, gp28, gq28, ⟨_, V_A8⟩, ⟨_, V_A9⟩, Or.inr (Or.inr ⟨rfl, hsh⟩)⟩ (by decide) (by decide)
  · skip
    have hba := own_in1 ha
    have hma := own_md (own_selB (c := a) hdc0 hdc1) (own_m00 (own_selB hdc0 hdc1))
    have hbb := own_in1 hb
    have hmb := own_md (own_selB (c := b) hdc0 hdc1) (own_m00 (own_selB hdc0 hdc1))
    show GolF _ _ _ _ _ _ _ T12 m 134 #[vr (A 0), vi 2, vj 3, ss, vd 4746794007244308480, ss, vd 0, ss, vi 0, vi 0, vi 0, vi (-1), uu, uu, uu, uu, uu] []
    refine Gol.aloadN X12 hx hby d10_134 135 rfl rfl rfl ?_
    refine Gol.iloadN X12 hx hby d10_135 136 rfl rfl ?_
    refine Gol.callQ X12 hx hby hZ hown (z := zM0) 0 [(.int 2)] (a := (A 0)) (w 132 _ rfl) (w 133 _ rfl) (w 101 _ rfl) rfl (w 134 _ rfl) (w 10 _ rfl) (w 135 _ rfl) (by decide) E_A0 (rmPr2x l Z a0 hw []  A (0 : Int32) (0 : Int32) (0 : Int32) (0 : Int32) s0 s1 (-1) (-1) 0 1 0 0 a b nd0 nd1 tk0 tk1 dc0 dc1 (.int 0) (.int 0) (.int 0) (.int 0) (.int 0) (.int 0) (.int 0) (.int 0) (.double 0) (.double 0) (.double 0) (.double 0) (.double 0) (.double 0) (.double 0) (.double 0) h10 n0 Zs D G B_A0 E_A0 ⟨_, (V_A1.keep K nn_A1)⟩ ⟨_, V_A7⟩ ⟨_, V_A14⟩ ⟨_, (V_A4.keep K nn_A4)⟩ ⟨_, (V_A2.keep K nn_A2)⟩ ⟨_, (V_A3.keep K nn_A3)⟩ ⟨_, (V_A5.keep K nn_A5)⟩ ⟨_, (V_A6.keep K nn_A6)⟩ ⟨_, V_A17⟩ ⟨_, V_A18⟩ hM0 hM1 ha hb hba hbb hdc0 hdc1 hma hmb hpa hpb) (by decide) (by decide) eq12 (by rw [hml]; rfl) (rest := []) (Nat.le_of_eq rfl) (by decide) (by decide) (lenOf pd_6 rfl) rfl d10_136 139 rfl ?_
    intro T36 v36 L36 X36 hQ36
    obtain ⟨⟨rz36, rfl, hrz⟩, Nq36, Kq36, ⟨wz36, B_A0⟩, ⟨k36_A17, V_A17⟩, ⟨k36_A18, V_A18⟩⟩ := hQ36
    have N36 := Fr.app N12 Nq36
    have E_A0 := E_A0.keep Kq36
    have V_A7 := V_A7.keep Kq36 (nnA D 7 [0, 17, 18] rfl)
    have V_A8 := V_A8.keep Kq36 (nnA D 8 [0, 17, 18] rfl)
    have V_A9 := V_A9.keep Kq36 (nnA D 9 [0, 17, 18] rfl)
    have V_A11 := V_A11.keep Kq36 (nnA D 11 [0, 17, 18] rfl)
    have V_A12 := V_A12.keep Kq36 (nnA D 12 [0, 17, 18] rfl)
    have V_A15 := V_A15.keep Kq36 (nnA D 15 [0, 17, 18] rfl)
    have V_A16 := V_A16.keep Kq36 (nnA D 16 [0, 17, 18] rfl)
    have V_A13 := V_A13.keep Kq36 (nnA D 13 [0, 17, 18] rfl)
    have V_A14 := V_A14.keep Kq36 (nnA D 14 [0, 17, 18] rfl)
    have K := K.trans Kq36 (allS (Or.inl (List.mem_of_getElem? (i := 0) rfl)) (allS (Or.inl (List.mem_of_getElem? (i := 10) rfl)) (allS (Or.inl (List.mem_of_getElem? (i := 11) rfl)) all0)))
    have Zs := Nat.le_trans Zs Kq36.1
    show GolF _ _ _ _ _ _ _ T36 m 139 #[vr (A 0), vi 2, vj 3, ss, vd 4746794007244308480, ss, vd 0, ss, vi 0, vi 0, vi 0, vi (-1), uu, uu, uu, uu, uu] [(.int rz36)]
    rcases hrz with ⟨rfl, -⟩ | ⟨rfl, -⟩
    · skip
      show GolF _ _ _ _ _ _ _ T36 m 139 #[vr (A 0), vi 2, vj 3, ss, vd 4746794007244308480, ss, vd 0, ss, vi 0, vi 0, vi 0, vi (-1), uu, uu, uu, uu, uu] [(.int a)]
      refine Gol.istore X36 hx hby d10_139 141 rfl (l' := #[vr (A 0), vi 2, vj 3, ss, vd 4746794007244308480, ss, vd 0, ss, vi 0, vi 0, vi 0, vi a, uu, uu, uu, uu, uu]) rfl ?_
      refine Gol.iload X36 hx hby d10_141 143 rfl rfl ?_
      refine Gol.ifYes X36 hx hby d10_143 154 (by decide) ((if0 _ _).trans (flt (own_in2 ha).1).2.1) ?_
      refine own_turn (xx := a) (c := (sel a dc0 dc1)) hw Zs D G B_A0 E_A0 ⟨_, (V_A2.keep K nn_A2)⟩ ⟨_, (V_A3.keep K nn_A3)⟩ ⟨_, (V_A5.keep K nn_A5)⟩ ⟨_, (V_A6.keep K nn_A6)⟩ ⟨_, V_A7⟩ ⟨_, V_A8⟩ ⟨_, V_A9⟩ ⟨_, (V_A10.keep K nn_A10)⟩ ⟨_, V_A11⟩ ⟨_, V_A12⟩ ⟨_, V_A13⟩ ⟨_, V_A14⟩ ⟨_, V_A15⟩ l2d_zero.symm (jt := (1 : Int32)) (by decide) own_b0 ha hdc0 hdc1 rfl (own_selB hdc0 hdc1) ⟨fun _ => rfl, fun _ => rfl⟩ (own_m00 (own_selB hdc0 hdc1)) (own_mb hM0) (own_mb hM1) hpa (by decide) (Or.inl ⟨rfl, rfl, rfl, rfl, rfl⟩) X36 hx hby hZ hown hml rfl N36 ?_
      intro T37 L37 h37 xp37 xq37 yp37 yq37 gp37 gq37 Mp37 Mq37 Oq37 zp37 zq37 zr37 zs37 X37 e37 N37 Kt B_A0 Q7 Q8 Q9 Q11 Q12 Q13 Q14 Q15 ex ey eg ef eM eN eO
      have E_A0 := E_A0.keep Kt
      have V_A16 := V_A16.keep Kt (nnA D 16 [0, 7, 8, 9, 11, 12, 13, 14, 15] rfl)
      have V_A17 := V_A17.keep Kt (nnA D 17 [0, 7, 8, 9, 11, 12, 13, 14, 15] rfl)
      have K := K.trans Kt (allS (Or.inl (List.mem_of_getElem? (i := 0) rfl)) (allS (Or.inl (List.mem_of_getElem? (i := 1) rfl)) (allS (Or.inl (List.mem_of_getElem? (i := 2) rfl)) (allS (Or.inl (List.mem_of_getElem? (i := 3) rfl)) (allS (Or.inl (List.mem_of_getElem? (i := 4) rfl)) (allS (Or.inl (List.mem_of_getElem? (i := 5) rfl)) (allS (Or.inl (List.mem_of_getElem? (i := 6) rfl)) (allS (Or.inl (List.mem_of_getElem? (i := 7) rfl)) (allS (Or.inl (List.mem_of_getElem? (i := 8) rfl)) all0)))))))))
      have Zs := Nat.le_trans Zs Kt.1
      obtain ⟨k37_A7, V_A7⟩ := Q7
      obtain ⟨k37_A8, V_A8⟩ := Q8
      obtain ⟨k37_A9, V_A9⟩ := Q9
      obtain ⟨k37_A11, V_A11⟩ := Q11
      obtain ⟨k37_A12, V_A12⟩ := Q12
      obtain ⟨k37_A13, V_A13⟩ := Q13
      obtain ⟨k37_A14, V_A14⟩ := Q14
      obtain ⟨k37_A15, V_A15⟩ := Q15
      obtain ⟨hM0, hM1⟩ := own_mr (own_selB hdc0 hdc1) ⟨Int.le_of_lt hpa, hsz a ha⟩ hM0 hM1 eM eN
      have hba := own_nb ha (own_selB hdc0 hdc1) ex ey
      have hBOq37 := own_bO eO
      have hEOq37 := own_en3 eO
      have eO1 := eO
      have eg1 := eg
      have ef1 := ef
      have hcn := own_cne ha hb hab hdd
      have hbb : sel b xp37 xq37 < 0 := by rw [own_ob ha hb hab ex ey]; exact own_in1 hb
      have hm2 := own_mz (own_selB hdc0 hdc1) (own_selB hdc0 hdc1) hcn eM eN
      have hmb := own_md (own_selB hdc0 hdc1) hm2
      have hg2 := own_gy (own_selB hdc0 hdc1) hcn eg ef
      show GolF _ _ _ _ _ _ _ T37 m 71 #[vr (A 0), vi 2, vj 3, ss, vd 4746794007244308480, ss, vd (FP.l2d Oq37), ss, vi 0, vi 1, vi 0, vi a, vd (FP.l2d (prf a nd0 nd1 tk0 tk1)), ss, vi (sel a dc0 dc1), vd 4607182418800017408, ss] []
      refine Gol.iload X37 hx hby d10_71 73 rfl rfl ?_
      refine Gol.bipush X37 hx hby d10_73 75 rfl (z := (100 : Int32)) rfl ?_
      refine Gol.fB X37 hx hby hZ hown (w 36 _ rfl) e37 B_A0 6 d10_75 d10_76 79 rfl rfl rfl rfl ?_
      intro T38 X38 e38
      refine Gol.imul X38 hx hby d10_79 80 rfl (z := (200 : Int32)) rfl ?_
      refine Gol.icmpNo X38 hx hby d10_80 83 rfl (tlt (by decide : (1 : Int32) < (200 : Int32))).2.1 ?_
      refine Gol.dload X38 hx hby d10_83 85 rfl rfl ?_
      refine Gol.dload X38 hx hby d10_85 87 rfl rfl ?_
      refine Gol.dcmp X38 hx hby d10_87 88 rfl (v := (lcmpW Oq37 2147483647)) (own_en2 hBOq37 _) ?_
      refine Gol.ifNo X38 hx hby d10_88 91 rfl ((if0 _ _).trans (flt hEOq37).2.2.1) ?_
      refine Gol.iload X38 hx hby d10_91 93 rfl rfl ?_
      refine Gol.bipush X38 hx hby d10_93 95 rfl (z := (16 : Int32)) rfl ?_
      refine Gol.icmpYes X38 hx hby d10_95 102 (by decide) (tlt (by decide : (0 : Int32) < (16 : Int32))).1 ?_
      refine Gol.iconst X38 hx hby d10_102 103 rfl (z := (0 : Int32)) rfl ?_
      refine Gol.istore X38 hx hby d10_103 105 rfl (l' := #[vr (A 0), vi 2, vj 3, ss, vd 4746794007244308480, ss, vd (FP.l2d Oq37), ss, vi 0, vi 1, vi 0, vi a, vd (FP.l2d (prf a nd0 nd1 tk0 tk1)), ss, vi (sel a dc0 dc1), vd 4607182418800017408, ss]) rfl ?_
      refine Gol.iload X38 hx hby d10_105 107 rfl rfl ?_
      refine Gol.ifYes X38 hx hby d10_107 118 (by decide) ((if0 _ _).trans (teq (by decide : (0 : Int32) = (0 : Int32))).1) ?_
      refine Gol.aloadN X38 hx hby d10_118 119 rfl rfl rfl ?_
      refine Gol.callQ X38 hx hby hZ hown (z := zM0) 0 [] (a := (A 0)) (w 127 _ rfl) (w 128 _ rfl) (w 101 _ rfl) rfl (w 129 _ rfl) (w 10 _ rfl) (w 130 _ rfl) (by decide) E_A0 (rmBest2b l Z a0 hw []  A (100 : Int32) (0 : Int32) wz36 ((0 : Int32) + (1 : Int32)) (3 : Int64) (0 : Int32) a b (.int 0) (.int 0) (.int 0) (.int 0) (.int 0) (.int 0) xp37 xq37 yp37 yq37 nd0 nd1 tk0 tk1 dc0 dc1 (FP.l2d Mp37) (FP.l2d Mq37) h37 n0 Zs D G B_A0 E_A0 ⟨_, V_A17⟩ ⟨_, V_A7⟩ ⟨_, (V_A2.keep K nn_A2)⟩ ⟨_, (V_A3.keep K nn_A3)⟩ ⟨_, (V_A5.keep K nn_A5)⟩ ⟨_, (V_A6.keep K nn_A6)⟩ ⟨_, V_A14⟩ ha hb hba hbb hdc0 hdc1 hmb hpb) (by decide) (by decide) e38 (by rw [hml]; rfl) (rest := []) (Nat.le_of_eq rfl) (by decide) (by decide) (lenOf pd_11 rfl) rfl d10_119 122 rfl ?_
      intro T39 v39 L39 X39 hQ39
      obtain ⟨rfl, Nq39, eq39⟩ := hQ39
      have N39 := Fr.app N37 Nq39
      show GolF _ _ _ _ _ _ _ T39 m 122 #[vr (A 0), vi 2, vj 3, ss, vd 4746794007244308480, ss, vd (FP.l2d Oq37), ss, vi 0, vi 1, vi 0, vi a, vd (FP.l2d (prf a nd0 nd1 tk0 tk1)), ss, vi (sel a dc0 dc1), vd 4607182418800017408, ss] [(.int b)]
      refine Gol.istore X39 hx hby d10_122 124 rfl (l' := #[vr (A 0), vi 2, vj 3, ss, vd 4746794007244308480, ss, vd (FP.l2d Oq37), ss, vi 0, vi 1, vi 0, vi b, vd (FP.l2d (prf a nd0 nd1 tk0 tk1)), ss, vi (sel a dc0 dc1), vd 4607182418800017408, ss]) rfl ?_
      refine Gol.iload X39 hx hby d10_124 126 rfl rfl ?_
      refine Gol.ifYes X39 hx hby d10_126 141 (by decide) ((if0 _ _).trans (flt (own_in2 hb).1).2.1) ?_
      refine Gol.iload X39 hx hby d10_141 143 rfl rfl ?_
      refine Gol.ifYes X39 hx hby d10_143 154 (by decide) ((if0 _ _).trans (flt (own_in2 hb).1).2.1) ?_
      refine own_turn (xx := b) (c := (sel b dc0 dc1)) hw Zs D G B_A0 E_A0 ⟨_, (V_A2.keep K nn_A2)⟩ ⟨_, (V_A3.keep K nn_A3)⟩ ⟨_, (V_A5.keep K nn_A5)⟩ ⟨_, (V_A6.keep K nn_A6)⟩ ⟨_, V_A7⟩ ⟨_, V_A8⟩ ⟨_, V_A9⟩ ⟨_, (V_A10.keep K nn_A10)⟩ ⟨_, V_A11⟩ ⟨_, V_A12⟩ ⟨_, V_A13⟩ ⟨_, V_A14⟩ ⟨_, V_A15⟩ rfl (jt := (2 : Int32)) (by decide) hBOq37 hb hdc0 hdc1 rfl (own_selB hdc0 hdc1) hg2 hm2 (own_mb hM0) (own_mb hM1) hpb (by decide) (Or.inr ⟨_, _, _, rfl, rfl, rfl, rfl, rfl⟩) X39 hx hby hZ hown hml eq39 N39 ?_
      intro T40 L40 h40 xp40 xq40 yp40 yq40 gp40 gq40 Mp40 Mq40 Oq40 zp40 zq40 zr40 zs40 X40 e40 N40 Kt B_A0 Q7 Q8 Q9 Q11 Q12 Q13 Q14 Q15 ex ey eg ef eM eN eO
      have E_A0 := E_A0.keep Kt
      have V_A16 := V_A16.keep Kt (nnA D 16 [0, 7, 8, 9, 11, 12, 13, 14, 15] rfl)
      have V_A17 := V_A17.keep Kt (nnA D 17 [0, 7, 8, 9, 11, 12, 13, 14, 15] rfl)
      have K := K.trans Kt (allS (Or.inl (List.mem_of_getElem? (i := 0) rfl)) (allS (Or.inl (List.mem_of_getElem? (i := 1) rfl)) (allS (Or.inl (List.mem_of_getElem? (i := 2) rfl)) (allS (Or.inl (List.mem_of_getElem? (i := 3) rfl)) (allS (Or.inl (List.mem_of_getElem? (i := 4) rfl)) (allS (Or.inl (List.mem_of_getElem? (i := 5) rfl)) (allS (Or.inl (List.mem_of_getElem? (i := 6) rfl)) (allS (Or.inl (List.mem_of_getElem? (i := 7) rfl)) (allS (Or.inl (List.mem_of_getElem? (i := 8) rfl)) all0)))))))))
      have Zs := Nat.le_trans Zs Kt.1
      obtain ⟨k40_A7, V_A7⟩ := Q7
      obtain ⟨k40_A8, V_A8⟩ := Q8
      obtain ⟨k40_A9, V_A9⟩ := Q9
      obtain ⟨k40_A11, V_A11⟩ := Q11
      obtain ⟨k40_A12, V_A12⟩ := Q12
      obtain ⟨k40_A13, V_A13⟩ := Q13
      obtain ⟨k40_A14, V_A14⟩ := Q14
      obtain ⟨k40_A15, V_A15⟩ := Q15
      obtain ⟨hM0, hM1⟩ := own_mr (own_selB hdc0 hdc1) ⟨Int.le_of_lt hpb, hsz b hb⟩ hM0 hM1 eM eN
      have hBOq40 := own_bO2 eO1 eO
      have hba : ¬ sel a xp40 xq40 < 0 := by rw [own_ob hb ha hab.symm ex ey]; exact hba
      have hbb := own_nb hb (own_selB hdc0 hdc1) ex ey
      obtain ⟨hF2, hsh⟩ := own_fin2 (nd0 := nd0) (nd1 := nd1) (tk0 := tk0) (tk1 := tk1) ha hb (own_selB hdc0 hdc1) (own_selB hdc0 hdc1) hcn ⟨hpa, hqa⟩ ⟨hpb, hqb⟩ eg1 ef1 eg ef
      obtain ⟨hga, hgb, hca, hcb, hsa, hsb⟩ := hF2
      show GolF _ _ _ _ _ _ _ T40 m 71 #[vr (A 0), vi 2, vj 3, ss, vd 4746794007244308480, ss, vd (FP.l2d Oq40), ss, vi 0, vi 2, vi 0, vi b, vd (FP.l2d (prf b nd0 nd1 tk0 tk1)), ss, vi (sel b dc0 dc1), vd 4607182418800017408, ss] []
      refine Gol.iload X40 hx hby d10_71 73 rfl rfl ?_
      refine Gol.bipush X40 hx hby d10_73 75 rfl (z := (100 : Int32)) rfl ?_
      refine Gol.fB X40 hx hby hZ hown (w 36 _ rfl) e40 B_A0 6 d10_75 d10_76 79 rfl rfl rfl rfl ?_
      intro T41 X41 e41
      refine Gol.imul X41 hx hby d10_79 80 rfl (z := (200 : Int32)) rfl ?_
      refine Gol.icmpNo X41 hx hby d10_80 83 rfl (tlt (by decide : (2 : Int32) < (200 : Int32))).2.1 ?_
      refine Gol.dload X41 hx hby d10_83 85 rfl rfl ?_
      refine Gol.dload X41 hx hby d10_85 87 rfl rfl ?_
      refine Gol.dcmp X41 hx hby d10_87 88 rfl (v := (lcmpW Oq40 2147483647)) (own_en2 hBOq40 _) ?_
      by_cases hc88_42 : (0 : Int32) < (lcmpW Oq40 2147483647)
      · skip
        refine Gol.ifYes X41 hx hby d10_88 278 (by decide) ((if0 _ _).trans (tlt hc88_42).2.2.1) ?_
        refine Gol.aloadN X41 hx hby d10_278 279 rfl rfl rfl ?_
        refine Gol.callQ X41 hx hby hZ hown (z := zM0) 0 [] (a := (A 0)) (w 156 _ rfl) (w 157 _ rfl) (w 101 _ rfl) rfl (w 158 _ rfl) (w 10 _ rfl) (w 159 _ rfl) (by decide) E_A0 (rmBou l Z a0 hw []  A (100 : Int32) (2 : Int32) (0 : Int32) wz36 (((0 : Int32) + (1 : Int32)) + (1 : Int32)) (0 : Int32) gp40 gq40 (.double 0) (.double 0) nd0 nd1 tk0 tk1 dc0 dc1 h40 n0 Zs D G B_A0 E_A0 ⟨_, V_A8⟩ ⟨_, V_A9⟩ ⟨_, V_A16⟩ ⟨_, (V_A2.keep K nn_A2)⟩ ⟨_, (V_A3.keep K nn_A3)⟩ ⟨_, (V_A5.keep K nn_A5)⟩ ⟨_, (V_A6.keep K nn_A6)⟩ (Or.inr ⟨hga, hca, hsa⟩) (Or.inr ⟨hgb, hcb, hsb⟩)) (by decide) (by decide) e41 (by rw [hml]; rfl) (rest := []) (Nat.le_of_eq rfl) (by decide) (by decide) (lenOf pd_10 rfl) rfl d10_279 282 rfl ?_
        intro T43 v43 L43 X43 hQ43
        obtain ⟨⟨zr43, rfl⟩, Nq43, Kq43⟩ := hQ43
        have N43 := Fr.app N40 Nq43
        have B_A0 := B_A0.keep Kq43 (nnA D 0 [16] rfl)
        have V_A8 := V_A8.keep Kq43 (nnA D 8 [16] rfl)
        have V_A9 := V_A9.keep Kq43 (nnA D 9 [16] rfl)
        have K := K.trans Kq43 (allS (Or.inl (List.mem_of_getElem? (i := 9) rfl)) all0)
        show GolF _ _ _ _ _ _ _ T43 m 282 #[vr (A 0), vi 2, vj 3, ss, vd 4746794007244308480, ss, vd (FP.l2d Oq40), ss, vi 0, vi 2, vi 0, vi b, vd (FP.l2d (prf b nd0 nd1 tk0 tk1)), ss, vi (sel b dc0 dc1), vd 4607182418800017408, ss] [(.double zr43)]
        exact Gol.retD X43 hx hby Bd.returns Bd.notSynchronized d10_282 rfl ⟨⟨_, rfl⟩, N43, K, ⟨_, _, _, _, _, _, _, B_A0⟩, gp40, gq40, ⟨_, V_A8⟩, ⟨_, V_A9⟩, Or.inr (Or.inr ⟨rfl, hsh⟩)⟩ (by decide) (by decide)
      · skip
        refine Gol.ifNo X41 hx hby d10_88 91 rfl ((if0 _ _).trans (flt hc88_42).2.2.1) ?_
        refine Gol.iload X41 hx hby d10_91 93 rfl rfl ?_
        refine Gol.bipush X41 hx hby d10_93 95 rfl (z := (16 : Int32)) rfl ?_
        refine Gol.icmpYes X41 hx hby d10_95 102 (by decide) (tlt (by decide : (0 : Int32) < (16 : Int32))).1 ?_
        refine Gol.iconst X41 hx hby d10_102 103 rfl (z := (0 : Int32)) rfl ?_
        refine Gol.istore X41 hx hby d10_103 105 rfl (l' := #[vr (A 0), vi 2, vj 3, ss, vd 4746794007244308480, ss, vd (FP.l2d Oq40), ss, vi 0, vi 2, vi 0, vi b, vd (FP.l2d (prf b nd0 nd1 tk0 tk1)), ss, vi (sel b dc0 dc1), vd 4607182418800017408, ss]) rfl ?_
        refine Gol.iload X41 hx hby d10_105 107 rfl rfl ?_
        refine Gol.ifYes X41 hx hby d10_107 118 (by decide) ((if0 _ _).trans (teq (by decide : (0 : Int32) = (0 : Int32))).1) ?_
        refine Gol.aloadN X41 hx hby d10_118 119 rfl rfl rfl ?_
        refine Gol.callQ X41 hx hby hZ hown (z := zM0) 0 [] (a := (A 0)) (w 127 _ rfl) (w 128 _ rfl) (w 101 _ rfl) rfl (w 129 _ rfl) (w 10 _ rfl) (w 130 _ rfl) (by decide) E_A0 (rmBest2n l Z a0 hw []  A (100 : Int32) (0 : Int32) wz36 (((0 : Int32) + (1 : Int32)) + (1 : Int32)) (3 : Int64) (0 : Int32) a b (.int 0) (.int 0) (.int 0) (.int 0) (.int 0) (.int 0) xp40 xq40 yp40 yq40 h40 n0 Zs D G B_A0 E_A0 ⟨_, V_A17⟩ ⟨_, V_A7⟩ ha hb hba hbb) (by decide) (by decide) e41 (by rw [hml]; rfl) (rest := []) (Nat.le_of_eq rfl) (by decide) (by decide) (lenOf pd_11 rfl) rfl d10_119 122 rfl ?_
        intro T44 v44 L44 X44 hQ44
        obtain ⟨rfl, Nq44, eq44⟩ := hQ44
        have N44 := Fr.app N40 Nq44
        show GolF _ _ _ _ _ _ _ T44 m 122 #[vr (A 0), vi 2, vj 3, ss, vd 4746794007244308480, ss, vd (FP.l2d Oq40), ss, vi 0, vi 2, vi 0, vi b, vd (FP.l2d (prf b nd0 nd1 tk0 tk1)), ss, vi (sel b dc0 dc1), vd 4607182418800017408, ss] [(.int (-1))]
        refine Gol.istore X44 hx hby d10_122 124 rfl (l' := #[vr (A 0), vi 2, vj 3, ss, vd 4746794007244308480, ss, vd (FP.l2d Oq40), ss, vi 0, vi 2, vi 0, vi (-1), vd (FP.l2d (prf b nd0 nd1 tk0 tk1)), ss, vi (sel b dc0 dc1), vd 4607182418800017408, ss]) rfl ?_
        refine Gol.iload X44 hx hby d10_124 126 rfl rfl ?_
        refine Gol.ifNo X44 hx hby d10_126 129 rfl ((if0 _ _).trans (tlt (by decide : (-1 : Int32) < (0 : Int32))).2.1) ?_
        refine Gol.iload X44 hx hby d10_129 131 rfl rfl ?_
        refine Gol.ifNo X44 hx hby d10_131 134 rfl ((if0 _ _).trans (teq (by decide : (0 : Int32) = (0 : Int32))).2) ?_
        refine Gol.aloadN X44 hx hby d10_134 135 rfl rfl rfl ?_
        refine Gol.iloadN X44 hx hby d10_135 136 rfl rfl ?_
        refine Gol.callQ X44 hx hby hZ hown (z := zM0) 0 [(.int 2)] (a := (A 0)) (w 132 _ rfl) (w 133 _ rfl) (w 101 _ rfl) rfl (w 134 _ rfl) (w 10 _ rfl) (w 135 _ rfl) (by decide) E_A0 (rmPr2n l Z a0 hw []  A (100 : Int32) (2 : Int32) wz36 (((0 : Int32) + (1 : Int32)) + (1 : Int32)) (0 : Int32) s0 s1 xp40 xq40 yp40 yq40 Mp40 Mq40 a b h40 n0 Zs D G B_A0 E_A0 ⟨_, (V_A1.keep K nn_A1)⟩ ⟨_, V_A7⟩ ⟨_, V_A14⟩ ⟨_, (V_A4.keep K nn_A4)⟩ hM0 hM1 ha hb hba hbb) (by decide) (by decide) eq44 (by rw [hml]; rfl) (rest := []) (Nat.le_of_eq rfl) (by decide) (by decide) (lenOf pd_6 rfl) rfl d10_136 139 rfl ?_
        intro T45 v45 L45 X45 hQ45
        obtain ⟨rfl, Nq45, Kq45, B_A0⟩ := hQ45
        have N45 := Fr.app N44 Nq45
        have E_A0 := E_A0.keep Kq45
        have V_A16 := V_A16.keep Kq45 (nnA D 16 [0] rfl)
        have V_A8 := V_A8.keep Kq45 (nnA D 8 [0] rfl)
        have V_A9 := V_A9.keep Kq45 (nnA D 9 [0] rfl)
        have K := K.trans Kq45 (allS (Or.inl (List.mem_of_getElem? (i := 0) rfl)) all0)
        have Zs := Nat.le_trans Zs Kq45.1
        show GolF _ _ _ _ _ _ _ T45 m 139 #[vr (A 0), vi 2, vj 3, ss, vd 4746794007244308480, ss, vd (FP.l2d Oq40), ss, vi 0, vi 2, vi 0, vi (-1), vd (FP.l2d (prf b nd0 nd1 tk0 tk1)), ss, vi (sel b dc0 dc1), vd 4607182418800017408, ss] [(.int (-1))]
        refine Gol.istore X45 hx hby d10_139 141 rfl (l' := #[vr (A 0), vi 2, vj 3, ss, vd 4746794007244308480, ss, vd (FP.l2d Oq40), ss, vi 0, vi 2, vi 0, vi (-1), vd (FP.l2d (prf b nd0 nd1 tk0 tk1)), ss, vi (sel b dc0 dc1), vd 4607182418800017408, ss]) rfl ?_
        refine Gol.iload X45 hx hby d10_141 143 rfl rfl ?_
        refine Gol.ifNo X45 hx hby d10_143 146 rfl ((if0 _ _).trans (tlt (by decide : (-1 : Int32) < (0 : Int32))).2.1) ?_
        refine Gol.aloadN X45 hx hby d10_146 147 rfl rfl rfl ?_
        refine Gol.iconst X45 hx hby d10_147 148 rfl (z := (1 : Int32)) rfl ?_
        refine Gol.putFN X45 hx hby hZ hown (w 105 _ rfl) Via.refl rfl (B_A0 24 _ _ _ rfl rfl) E_A0 (Or.inl (w 106 _ rfl)) (w 9 _ rfl) (ty := .boolean) (v' := (.int (1 : Int32))) (by decide) rfl (by decide) d10_148 151 rfl ?_
        intro T46 h46 X46 e46 W46
        have E_A0 := E_A0.wr W46
        have V_A16 := V_A16.other W46 (D 16 0 rfl)
        have V_A8 := V_A8.other W46 (D 8 0 rfl)
        have V_A9 := V_A9.other W46 (D 9 0 rfl)
        have K := K.wr W46 (Or.inl (List.mem_of_getElem? (i := 0) rfl))
        have Zs := Nat.le_trans Zs (Keep.of_wr W46).1
        have B_A0 : FL Z h46 (A 0) (rxv A (100 : Int32) (0 : Int32) (0 : Int32) wz36 (((0 : Int32) + (1 : Int32)) + (1 : Int32)) (3 : Int64) (1 : Int32)) := B_A0.put LA (i0 := 24) rfl W46
        have N46 := Fr.snoc X46 N45 (G 0 rfl)
        refine Gol.goto X46 hx hby d10_151 278 (by decide) ?_
        refine Gol.aloadN X46 hx hby d10_278 279 rfl rfl rfl ?_
        refine Gol.callQ X46 hx hby hZ hown (z := zM0) 0 [] (a := (A 0)) (w 156 _ rfl) (w 157 _ rfl) (w 101 _ rfl) rfl (w 158 _ rfl) (w 10 _ rfl) (w 159 _ rfl) (by decide) E_A0 (rmBou l Z a0 hw []  A (100 : Int32) (0 : Int32) (0 : Int32) wz36 (((0 : Int32) + (1 : Int32)) + (1 : Int32)) (1 : Int32) gp40 gq40 (.double 0) (.double 0) nd0 nd1 tk0 tk1 dc0 dc1 h46 n0 Zs D G B_A0 E_A0 ⟨_, V_A8⟩ ⟨_, V_A9⟩ ⟨_, V_A16⟩ ⟨_, (V_A2.keep K nn_A2)⟩ ⟨_, (V_A3.keep K nn_A3)⟩ ⟨_, (V_A5.keep K nn_A5)⟩ ⟨_, (V_A6.keep K nn_A6)⟩ (Or.inr ⟨hga, hca, hsa⟩) (Or.inr ⟨hgb, hcb, hsb⟩)) (by decide) (by decide) e46 (by rw [hml]; rfl) (rest := []) (Nat.le_of_eq rfl) (by decide) (by decide) (lenOf pd_10 rfl) rfl d10_279 282 rfl ?_
        intro T47 v47 L47 X47 hQ47
        obtain ⟨⟨zr47, rfl⟩, Nq47, Kq47⟩ := hQ47
        have N47 := Fr.app N46 Nq47
        have B_A0 := B_A0.keep Kq47 (nnA D 0 [16] rfl)
        have V_A8 := V_A8.keep Kq47 (nnA D 8 [16] rfl)
        have V_A9 := V_A9.keep Kq47 (nnA D 9 [16] rfl)
        have K := K.trans Kq47 (allS (Or.inl (List.mem_of_getElem? (i := 9) rfl)) all0)
        show GolF _ _ _ _ _ _ _ T47 m 282 #[vr (A 0), vi 2, vj 3, ss, vd 4746794007244308480, ss, vd (FP.l2d Oq40), ss, vi 0, vi 2, vi 0, vi (-1), vd (FP.l2d (prf b nd0 nd1 tk0 tk1)), ss, vi (sel b dc0 dc1), vd 4607182418800017408, ss] [(.double zr47)]
        exact Gol.retD X47 hx hby Bd.returns Bd.notSynchronized d10_282 rfl ⟨⟨_, rfl⟩, N47, K, ⟨_, _, _, _, _, _, _, B_A0⟩, gp40, gq40, ⟨_, V_A8⟩, ⟨_, V_A9⟩, Or.inr (Or.inr ⟨rfl, hsh⟩)⟩ (by decide) (by decide)
    · skip
      show GolF _ _ _ _ _ _ _ T36 m 139 #[vr (A 0), vi 2, vj 3, ss, vd 4746794007244308480, ss, vd 0, ss, vi 0, vi 0, vi 0, vi (-1), uu, uu, uu, uu, uu] [(.int b)]
      refine Gol.istore X36 hx hby d10_139 141 rfl (l' := #[vr (A 0), vi 2, vj 3, ss, vd 4746794007244308480, ss, vd 0, ss, vi 0, vi 0, vi 0, vi b, uu, uu, uu, uu, uu]) rfl ?_
      refine Gol.iload X36 hx hby d10_141 143 rfl rfl ?_
      refine Gol.ifYes X36 hx hby d10_143 154 (by decide) ((if0 _ _).trans (flt (own_in2 hb).1).2.1) ?_
      refine own_turn (xx := b) (c := (sel b dc0 dc1)) hw Zs D G B_A0 E_A0 ⟨_, (V_A2.keep K nn_A2)⟩ ⟨_, (V_A3.keep K nn_A3)⟩ ⟨_, (V_A5.keep K nn_A5)⟩ ⟨_, (V_A6.keep K nn_A6)⟩ ⟨_, V_A7⟩ ⟨_, V_A8⟩ ⟨_, V_A9⟩ ⟨_, (V_A10.keep K nn_A10)⟩ ⟨_, V_A11⟩ ⟨_, V_A12⟩ ⟨_, V_A13⟩ ⟨_, V_A14⟩ ⟨_, V_A15⟩ l2d_zero.symm (jt := (1 : Int32)) (by decide) own_b0 hb hdc0 hdc1 rfl (own_selB hdc0 hdc1) ⟨fun _ => rfl, fun _ => rfl⟩ (own_m00 (own_selB hdc0 hdc1)) (own_mb hM0) (own_mb hM1) hpb (by decide) (Or.inl ⟨rfl, rfl, rfl, rfl, rfl⟩) X36 hx hby hZ hown hml rfl N36 ?_
      intro T48 L48 h48 xp48 xq48 yp48 yq48 gp48 gq48 Mp48 Mq48 Oq48 zp48 zq48 zr48 zs48 X48 e48 N48 Kt B_A0 Q7 Q8 Q9 Q11 Q12 Q13 Q14 Q15 ex ey eg ef eM eN eO
      have E_A0 := E_A0.keep Kt
      have V_A16 := V_A16.keep Kt (nnA D 16 [0, 7, 8, 9, 11, 12, 13, 14, 15] rfl)
      have V_A17 := V_A17.keep Kt (nnA D 17 [0, 7, 8, 9, 11, 12, 13, 14, 15] rfl)
      have K := K.trans Kt (allS (Or.inl (List.mem_of_getElem? (i := 0) rfl)) (allS (Or.inl (List.mem_of_getElem? (i := 1) rfl)) (allS (Or.inl (List.mem_of_getElem? (i := 2) rfl)) (allS (Or.inl (List.mem_of_getElem? (i := 3) rfl)) (allS (Or.inl (List.mem_of_getElem? (i := 4) rfl)) (allS (Or.inl (List.mem_of_getElem? (i := 5) rfl)) (allS (Or.inl (List.mem_of_getElem? (i := 6) rfl)) (allS (Or.inl (List.mem_of_getElem? (i := 7) rfl)) (allS (Or.inl (List.mem_of_getElem? (i := 8) rfl)) all0)))))))))
      have Zs := Nat.le_trans Zs Kt.1
      obtain ⟨k48_A7, V_A7⟩ := Q7
      obtain ⟨k48_A8, V_A8⟩ := Q8
      obtain ⟨k48_A9, V_A9⟩ := Q9
      obtain ⟨k48_A11, V_A11⟩ := Q11
      obtain ⟨k48_A12, V_A12⟩ := Q12
      obtain ⟨k48_A13, V_A13⟩ := Q13
      obtain ⟨k48_A14, V_A14⟩ := Q14
      obtain ⟨k48_A15, V_A15⟩ := Q15
      obtain ⟨hM0, hM1⟩ := own_mr (own_selB hdc0 hdc1) ⟨Int.le_of_lt hpb, hsz b hb⟩ hM0 hM1 eM eN
      have hbb := own_nb hb (own_selB hdc0 hdc1) ex ey
      have hBOq48 := own_bO eO
      have hEOq48 := own_en3 eO
      have eO1 := eO
      have eg1 := eg
      have ef1 := ef
      have hcn := own_cne hb ha hab.symm hdd
      have hba : sel a xp48 xq48 < 0 := by rw [own_ob hb ha hab.symm ex ey]; exact own_in1 ha
      have hm2 := own_mz (own_selB hdc0 hdc1) (own_selB hdc0 hdc1) hcn eM eN
      have hma := own_md (own_selB hdc0 hdc1) hm2
      have hg2 := own_gy (own_selB hdc0 hdc1) hcn eg ef
      show GolF _ _ _ _ _ _ _ T48 m 71 #[vr (A 0), vi 2, vj 3, ss, vd 4746794007244308480, ss, vd (FP.l2d Oq48), ss, vi 0, vi 1, vi 0, vi b, vd (FP.l2d (prf b nd0 nd1 tk0 tk1)), ss, vi (sel b dc0 dc1), vd 4607182418800017408, ss] []
      refine Gol.iload X48 hx hby d10_71 73 rfl rfl ?_
      refine Gol.bipush X48 hx hby d10_73 75 rfl (z := (100 : Int32)) rfl ?_
      refine Gol.fB X48 hx hby hZ hown (w 36 _ rfl) e48 B_A0 6 d10_75 d10_76 79 rfl rfl rfl rfl ?_
      intro T49 X49 e49
      refine Gol.imul X49 hx hby d10_79 80 rfl (z := (200 : Int32)) rfl ?_
      refine Gol.icmpNo X49 hx hby d10_80 83 rfl (tlt (by decide : (1 : Int32) < (200 : Int32))).2.1 ?_
      refine Gol.dload X49 hx hby d10_83 85 rfl rfl ?_
      refine Gol.dload X49 hx hby d10_85 87 rfl rfl ?_
      refine Gol.dcmp X49 hx hby d10_87 88 rfl (v := (lcmpW Oq48 2147483647)) (own_en2 hBOq48 _) ?_
      refine Gol.ifNo X49 hx hby d10_88 91 rfl ((if0 _ _).trans (flt hEOq48).2.2.1) ?_
      refine Gol.iload X49 hx hby d10_91 93 rfl rfl ?_
      refine Gol.bipush X49 hx hby d10_93 95 rfl (z := (16 : Int32)) rfl ?_
      refine Gol.icmpYes X49 hx hby d10_95 102 (by decide) (tlt (by decide : (0 : Int32) < (16 : Int32))).1 ?_
      refine Gol.iconst X49 hx hby d10_102 103 rfl (z := (0 : Int32)) rfl ?_
      refine Gol.istore X49 hx hby d10_103 105 rfl (l' := #[vr (A 0), vi 2, vj 3, ss, vd 4746794007244308480, ss, vd (FP.l2d Oq48), ss, vi 0, vi 1, vi 0, vi b, vd (FP.l2d (prf b nd0 nd1 tk0 tk1)), ss, vi (sel b dc0 dc1), vd 4607182418800017408, ss]) rfl ?_
      refine Gol.iload X49 hx hby d10_105 107 rfl rfl ?_
      refine Gol.ifYes X49 hx hby d10_107 118 (by decide) ((if0 _ _).trans (teq (by decide : (0 : Int32) = (0 : Int32))).1) ?_
      refine Gol.aloadN X49 hx hby d10_118 119 rfl rfl rfl ?_
      refine Gol.callQ X49 hx hby hZ hown (z := zM0) 0 [] (a := (A 0)) (w 127 _ rfl) (w 128 _ rfl) (w 101 _ rfl) rfl (w 129 _ rfl) (w 10 _ rfl) (w 130 _ rfl) (by decide) E_A0 (rmBest2a l Z a0 hw []  A (100 : Int32) (0 : Int32) wz36 ((0 : Int32) + (1 : Int32)) (3 : Int64) (0 : Int32) a b (.int 0) (.int 0) (.int 0) (.int 0) (.int 0) (.int 0) xp48 xq48 yp48 yq48 nd0 nd1 tk0 tk1 dc0 dc1 (FP.l2d Mp48) (FP.l2d Mq48) h48 n0 Zs D G B_A0 E_A0 ⟨_, V_A17⟩ ⟨_, V_A7⟩ ⟨_, (V_A2.keep K nn_A2)⟩ ⟨_, (V_A3.keep K nn_A3)⟩ ⟨_, (V_A5.keep K nn_A5)⟩ ⟨_, (V_A6.keep K nn_A6)⟩ ⟨_, V_A14⟩ ha hb hba hbb hdc0 hdc1 hma hpa) (by decide) (by decide) e49 (by rw [hml]; rfl) (rest := []) (Nat.le_of_eq rfl) (by decide) (by decide) (lenOf pd_11 rfl) rfl d10_119 122 rfl ?_
      intro T50 v50 L50 X50 hQ50
      obtain ⟨rfl, Nq50, eq50⟩ := hQ50
      have N50 := Fr.app N48 Nq50
      show GolF _ _ _ _ _ _ _ T50 m 122 #[vr (A 0), vi 2, vj 3, ss, vd 4746794007244308480, ss, vd (FP.l2d Oq48), ss, vi 0, vi 1, vi 0, vi b, vd (FP.l2d (prf b nd0 nd1 tk0 tk1)), ss, vi (sel b dc0 dc1), vd 4607182418800017408, ss] [(.int a)]
      refine Gol.istore X50 hx hby d10_122 124 rfl (l' := #[vr (A 0), vi 2, vj 3, ss, vd 4746794007244308480, ss, vd (FP.l2d Oq48), ss, vi 0, vi 1, vi 0, vi a, vd (FP.l2d (prf b nd0 nd1 tk0 tk1)), ss, vi (sel b dc0 dc1), vd 4607182418800017408, ss]) rfl ?_
      refine Gol.iload X50 hx hby d10_124 126 rfl rfl ?_
      refine Gol.ifYes X50 hx hby d10_126 141 (by decide) ((if0 _ _).trans (flt (own_in2 ha).1).2.1) ?_
      refine Gol.iload X50 hx hby d10_141 143 rfl rfl ?_
      refine Gol.ifYes X50 hx hby d10_143 154 (by decide) ((if0 _ _).trans (flt (own_in2 ha).1).2.1) ?_
      refine own_turn (xx := a) (c := (sel a dc0 dc1)) hw Zs D G B_A0 E_A0 ⟨_, (V_A2.keep K nn_A2)⟩ ⟨_, (V_A3.keep K nn_A3)⟩ ⟨_, (V_A5.keep K nn_A5)⟩ ⟨_, (V_A6.keep K nn_A6)⟩ ⟨_, V_A7⟩ ⟨_, V_A8⟩ ⟨_, V_A9⟩ ⟨_, (V_A10.keep K nn_A10)⟩ ⟨_, V_A11⟩ ⟨_, V_A12⟩ ⟨_, V_A13⟩ ⟨_, V_A14⟩ ⟨_, V_A15⟩ rfl (jt := (2 : Int32)) (by decide) hBOq48 ha hdc0 hdc1 rfl (own_selB hdc0 hdc1) hg2 hm2 (own_mb hM0) (own_mb hM1) hpa (by decide) (Or.inr ⟨_, _, _, rfl, rfl, rfl, rfl, rfl⟩) X50 hx hby hZ hown hml eq50 N50 ?_
      intro T51 L51 h51 xp51 xq51 yp51 yq51 gp51 gq51 Mp51 Mq51 Oq51 zp51 zq51 zr51 zs51 X51 e51 N51 Kt B_A0 Q7 Q8 Q9 Q11 Q12 Q13 Q14 Q15 ex ey eg ef eM eN eO
      have E_A0 := E_A0.keep Kt
      have V_A16 := V_A16.keep Kt (nnA D 16 [0, 7, 8, 9, 11, 12, 13, 14, 15] rfl)
      have V_A17 := V_A17.keep Kt (nnA D 17 [0, 7, 8, 9, 11, 12, 13, 14, 15] rfl)
      have K := K.trans Kt (allS (Or.inl (List.mem_of_getElem? (i := 0) rfl)) (allS (Or.inl (List.mem_of_getElem? (i := 1) rfl)) (allS (Or.inl (List.mem_of_getElem? (i := 2) rfl)) (allS (Or.inl (List.mem_of_getElem? (i := 3) rfl)) (allS (Or.inl (List.mem_of_getElem? (i := 4) rfl)) (allS (Or.inl (List.mem_of_getElem? (i := 5) rfl)) (allS (Or.inl (List.mem_of_getElem? (i := 6) rfl)) (allS (Or.inl (List.mem_of_getElem? (i := 7) rfl)) (allS (Or.inl (List.mem_of_getElem? (i := 8) rfl)) all0)))))))))
      have Zs := Nat.le_trans Zs Kt.1
      obtain ⟨k51_A7, V_A7⟩ := Q7
      obtain ⟨k51_A8, V_A8⟩ := Q8
      obtain ⟨k51_A9, V_A9⟩ := Q9
      obtain ⟨k51_A11, V_A11⟩ := Q11
      obtain ⟨k51_A12, V_A12⟩ := Q12
      obtain ⟨k51_A13, V_A13⟩ := Q13
      obtain ⟨k51_A14, V_A14⟩ := Q14
      obtain ⟨k51_A15, V_A15⟩ := Q15
      obtain ⟨hM0, hM1⟩ := own_mr (own_selB hdc0 hdc1) ⟨Int.le_of_lt hpa, hsz a ha⟩ hM0 hM1 eM eN
      have hBOq51 := own_bO2 eO1 eO
      have hbb : ¬ sel b xp51 xq51 < 0 := by rw [own_ob ha hb hab ex ey]; exact hbb
      have hba := own_nb ha (own_selB hdc0 hdc1) ex ey
      obtain ⟨hF2, hsh⟩ := own_fin2 (nd0 := nd0) (nd1 := nd1) (tk0 := tk0) (tk1 := tk1) hb ha (own_selB hdc0 hdc1) (own_selB hdc0 hdc1) hcn ⟨hpb, hqb⟩ ⟨hpa, hqa⟩ eg1 ef1 eg ef
      obtain ⟨hga, hgb, hca, hcb, hsa, hsb⟩ := hF2
      show GolF _ _ _ _ _ _ _ T51 m 71 #[vr (A 0), vi 2, vj 3, ss, vd 4746794007244308480, ss, vd (FP.l2d Oq51), ss, vi 0, vi 2, vi 0, vi a, vd (FP.l2d (prf a nd0 nd1 tk0 tk1)), ss, vi (sel a dc0 dc1), vd 4607182418800017408, ss] []
      refine Gol.iload X51 hx hby d10_71 73 rfl rfl ?_
      refine Gol.bipush X51 hx hby d10_73 75 rfl (z := (100 : Int32)) rfl ?_
      refine Gol.fB X51 hx hby hZ hown (w 36 _ rfl) e51 B_A0 6 d10_75 d10_76 79 rfl rfl rfl rfl ?_
      intro T52 X52 e52
      refine Gol.imul X52 hx hby d10_79 80 rfl (z := (200 : Int32)) rfl ?_
      refine Gol.icmpNo X52 hx hby d10_80 83 rfl (tlt (by decide : (2 : Int32) < (200 : Int32))).2.1 ?_
      refine Gol.dload X52 hx hby d10_83 85 rfl rfl ?_
      refine Gol.dload X52 hx hby d10_85 87 rfl rfl ?_
      refine Gol.dcmp X52 hx hby d10_87 88 rfl (v := (lcmpW Oq51 2147483647)) (own_en2 hBOq51 _) ?_
      by_cases hc88_53 : (0 : Int32) < (lcmpW Oq51 2147483647)
      · skip
        refine Gol.ifYes X52 hx hby d10_88 278 (by decide) ((if0 _ _).trans (tlt hc88_53).2.2.1) ?_
        refine Gol.aloadN X52 hx hby d10_278 279 rfl rfl rfl ?_
        refine Gol.callQ X52 hx hby hZ hown (z := zM0) 0 [] (a := (A 0)) (w 156 _ rfl) (w 157 _ rfl) (w 101 _ rfl) rfl (w 158 _ rfl) (w 10 _ rfl) (w 159 _ rfl) (by decide) E_A0 (rmBou l Z a0 hw []  A (100 : Int32) (2 : Int32) (0 : Int32) wz36 (((0 : Int32) + (1 : Int32)) + (1 : Int32)) (0 : Int32) gp51 gq51 (.double 0) (.double 0) nd0 nd1 tk0 tk1 dc0 dc1 h51 n0 Zs D G B_A0 E_A0 ⟨_, V_A8⟩ ⟨_, V_A9⟩ ⟨_, V_A16⟩ ⟨_, (V_A2.keep K nn_A2)⟩ ⟨_, (V_A3.keep K nn_A3)⟩ ⟨_, (V_A5.keep K nn_A5)⟩ ⟨_, (V_A6.keep K nn_A6)⟩ (Or.inr ⟨hga, hca, hsa⟩) (Or.inr ⟨hgb, hcb, hsb⟩)) (by decide) (by decide) e52 (by rw [hml]; rfl) (rest := []) (Nat.le_of_eq rfl) (by decide) (by decide) (lenOf pd_10 rfl) rfl d10_279 282 rfl ?_
        intro T54 v54 L54 X54 hQ54
        obtain ⟨⟨zr54, rfl⟩, Nq54, Kq54⟩ := hQ54
        have N54 := Fr.app N51 Nq54
        have B_A0 := B_A0.keep Kq54 (nnA D 0 [16] rfl)
        have V_A8 := V_A8.keep Kq54 (nnA D 8 [16] rfl)
        have V_A9 := V_A9.keep Kq54 (nnA D 9 [16] rfl)
        have K := K.trans Kq54 (allS (Or.inl (List.mem_of_getElem? (i := 9) rfl)) all0)
        show GolF _ _ _ _ _ _ _ T54 m 282 #[vr (A 0), vi 2, vj 3, ss, vd 4746794007244308480, ss, vd (FP.l2d Oq51), ss, vi 0, vi 2, vi 0, vi a, vd (FP.l2d (prf a nd0 nd1 tk0 tk1)), ss, vi (sel a dc0 dc1), vd 4607182418800017408, ss] [(.double zr54)]
        exact Gol.retD X54 hx hby Bd.returns Bd.notSynchronized d10_282 rfl ⟨⟨_, rfl⟩, N54, K, ⟨_, _, _, _, _, _, _, B_A0⟩, gp51, gq51, ⟨_, V_A8⟩, ⟨_, V_A9⟩, Or.inr (Or.inr ⟨rfl, hsh.symm⟩)⟩ (by decide) (by decide)
      · skip
        refine Gol.ifNo X52 hx hby d10_88 91 rfl ((if0 _ _).trans (flt hc88_53).2.2.1) ?_
        refine Gol.iload X52 hx hby d10_91 93 rfl rfl ?_
        refine Gol.bipush X52 hx hby d10_93 95 rfl (z := (16 : Int32)) rfl ?_
        refine Gol.icmpYes X52 hx hby d10_95 102 (by decide) (tlt (by decide : (0 : Int32) < (16 : Int32))).1 ?_
        refine Gol.iconst X52 hx hby d10_102 103 rfl (z := (0 : Int32)) rfl ?_
        refine Gol.istore X52 hx hby d10_103 105 rfl (l' := #[vr (A 0), vi 2, vj 3, ss, vd 4746794007244308480, ss, vd (FP.l2d Oq51), ss, vi 0, vi 2, vi 0, vi a, vd (FP.l2d (prf a nd0 nd1 tk0 tk1)), ss, vi (sel a dc0 dc1), vd 4607182418800017408, ss]) rfl ?_
        refine Gol.iload X52 hx hby d10_105 107 rfl rfl ?_
        refine Gol.ifYes X52 hx hby d10_107 118 (by decide) ((if0 _ _).trans (teq (by decide : (0 : Int32) = (0 : Int32))).1) ?_
        refine Gol.aloadN X52 hx hby d10_118 119 rfl rfl rfl ?_
        refine Gol.callQ X52 hx hby hZ hown (z := zM0) 0 [] (a := (A 0)) (w 127 _ rfl) (w 128 _ rfl) (w 101 _ rfl) rfl (w 129 _ rfl) (w 10 _ rfl) (w 130 _ rfl) (by decide) E_A0 (rmBest2n l Z a0 hw []  A (100 : Int32) (0 : Int32) wz36 (((0 : Int32) + (1 : Int32)) + (1 : Int32)) (3 : Int64) (0 : Int32) a b (.int 0) (.int 0) (.int 0) (.int 0) (.int 0) (.int 0) xp51 xq51 yp51 yq51 h51 n0 Zs D G B_A0 E_A0 ⟨_, V_A17⟩ ⟨_, V_A7⟩ ha hb hba hbb) (by decide) (by decide) e52 (by rw [hml]; rfl) (rest := []) (Nat.le_of_eq rfl) (by decide) (by decide) (lenOf pd_11 rfl) rfl d10_119 122 rfl ?_
        intro T55 v55 L55 X55 hQ55
        obtain ⟨rfl, Nq55, eq55⟩ := hQ55
        have N55 := Fr.app N51 Nq55
        show GolF _ _ _ _ _ _ _ T55 m 122 #[vr (A 0), vi 2, vj 3, ss, vd 4746794007244308480, ss, vd (FP.l2d Oq51), ss, vi 0, vi 2, vi 0, vi a, vd (FP.l2d (prf a nd0 nd1 tk0 tk1)), ss, vi (sel a dc0 dc1), vd 4607182418800017408, ss] [(.int (-1))]
        refine Gol.istore X55 hx hby d10_122 124 rfl (l' := #[vr (A 0), vi 2, vj 3, ss, vd 4746794007244308480, ss, vd (FP.l2d Oq51), ss, vi 0, vi 2, vi 0, vi (-1), vd (FP.l2d (prf a nd0 nd1 tk0 tk1)), ss, vi (sel a dc0 dc1), vd 4607182418800017408, ss]) rfl ?_
        refine Gol.iload X55 hx hby d10_124 126 rfl rfl ?_
        refine Gol.ifNo X55 hx hby d10_126 129 rfl ((if0 _ _).trans (tlt (by decide : (-1 : Int32) < (0 : Int32))).2.1) ?_
        refine Gol.iload X55 hx hby d10_129 131 rfl rfl ?_
        refine Gol.ifNo X55 hx hby d10_131 134 rfl ((if0 _ _).trans (teq (by decide : (0 : Int32) = (0 : Int32))).2) ?_
        refine Gol.aloadN X55 hx hby d10_134 135 rfl rfl rfl ?_
        refine Gol.iloadN X55 hx hby d10_135 136 rfl rfl ?_
        refine Gol.callQ X55 hx hby hZ hown (z := zM0) 0 [(.int 2)] (a := (A 0)) (w 132 _ rfl) (w 133 _ rfl) (w 101 _ rfl) rfl (w 134 _ rfl) (w 10 _ rfl) (w 135 _ rfl) (by decide) E_A0 (rmPr2n l Z a0 hw []  A (100 : Int32) (2 : Int32) wz36 (((0 : Int32) + (1 : Int32)) + (1 : Int32)) (0 : Int32) s0 s1 xp51 xq51 yp51 yq51 Mp51 Mq51 a b h51 n0 Zs D G B_A0 E_A0 ⟨_, (V_A1.keep K nn_A1)⟩ ⟨_, V_A7⟩ ⟨_, V_A14⟩ ⟨_, (V_A4.keep K nn_A4)⟩ hM0 hM1 ha hb hba hbb) (by decide) (by decide) eq55 (by rw [hml]; rfl) (rest := []) (Nat.le_of_eq rfl) (by decide) (by decide) (lenOf pd_6 rfl) rfl d10_136 139 rfl ?_
        intro T56 v56 L56 X56 hQ56
        obtain ⟨rfl, Nq56, Kq56, B_A0⟩ := hQ56
        have N56 := Fr.app N55 Nq56
        have E_A0 := E_A0.keep Kq56
        have V_A16 := V_A16.keep Kq56 (nnA D 16 [0] rfl)
        have V_A8 := V_A8.keep Kq56 (nnA D 8 [0] rfl)
        have V_A9 := V_A9.keep Kq56 (nnA D 9 [0] rfl)
        have K := K.trans Kq56 (allS (Or.inl (List.mem_of_getElem? (i := 0) rfl)) all0)
        have Zs := Nat.le_trans Zs Kq56.1
        show GolF _ _ _ _ _ _ _ T56 m 139 #[vr (A 0), vi 2, vj 3, ss, vd 4746794007244308480, ss, vd (FP.l2d Oq51), ss, vi 0, vi 2, vi 0, vi (-1), vd (FP.l2d (prf a nd0 nd1 tk0 tk1)), ss, vi (sel a dc0 dc1), vd 4607182418800017408, ss] [(.int (-1))]
        refine Gol.istore X56 hx hby d10_139 141 rfl (l' := #[vr (A 0), vi 2, vj 3, ss, vd 4746794007244308480, ss, vd (FP.l2d Oq51), ss, vi 0, vi 2, vi 0, vi (-1), vd (FP.l2d (prf a nd0 nd1 tk0 tk1)), ss, vi (sel a dc0 dc1), vd 4607182418800017408, ss]) rfl ?_
        refine Gol.iload X56 hx hby d10_141 143 rfl rfl ?_
        refine Gol.ifNo X56 hx hby d10_143 146 rfl ((if0 _ _).trans (tlt (by decide : (-1 : Int32) < (0 : Int32))).2.1) ?_
        refine Gol.aloadN X56 hx hby d10_146 147 rfl rfl rfl ?_
        refine Gol.iconst X56 hx hby d10_147 148 rfl (z := (1 : Int32)) rfl ?_
        refine Gol.putFN X56 hx hby hZ hown (w 105 _ rfl) Via.refl rfl (B_A0 24 _ _ _ rfl rfl) E_A0 (Or.inl (w 106 _ rfl)) (w 9 _ rfl) (ty := .boolean) (v' := (.int (1 : Int32))) (by decide) rfl (by decide) d10_148 151 rfl ?_
        intro T57 h57 X57 e57 W57
        have E_A0 := E_A0.wr W57
        have V_A16 := V_A16.other W57 (D 16 0 rfl)
        have V_A8 := V_A8.other W57 (D 8 0 rfl)
        have V_A9 := V_A9.other W57 (D 9 0 rfl)
        have K := K.wr W57 (Or.inl (List.mem_of_getElem? (i := 0) rfl))
        have Zs := Nat.le_trans Zs (Keep.of_wr W57).1
        have B_A0 : FL Z h57 (A 0) (rxv A (100 : Int32) (0 : Int32) (0 : Int32) wz36 (((0 : Int32) + (1 : Int32)) + (1 : Int32)) (3 : Int64) (1 : Int32)) := B_A0.put LA (i0 := 24) rfl W57
        have N57 := Fr.snoc X57 N56 (G 0 rfl)
        refine Gol.goto X57 hx hby d10_151 278 (by decide) ?_
        refine Gol.aloadN X57 hx hby d10_278 279 rfl rfl rfl ?_
        refine Gol.callQ X57 hx hby hZ hown (z := zM0) 0 [] (a := (A 0)) (w 156 _ rfl) (w 157 _ rfl) (w 101 _ rfl) rfl (w 158 _ rfl) (w 10 _ rfl) (w 159 _ rfl) (by decide) E_A0 (rmBou l Z a0 hw []  A (100 : Int32) (0 : Int32) (0 : Int32) wz36 (((0 : Int32) + (1 : Int32)) + (1 : Int32)) (1 : Int32) gp51 gq51 (.double 0) (.double 0) nd0 nd1 tk0 tk1 dc0 dc1 h57 n0 Zs D G B_A0 E_A0 ⟨_, V_A8⟩ ⟨_, V_A9⟩ ⟨_, V_A16⟩ ⟨_, (V_A2.keep K nn_A2)⟩ ⟨_, (V_A3.keep K nn_A3)⟩ ⟨_, (V_A5.keep K nn_A5)⟩ ⟨_, (V_A6.keep K nn_A6)⟩ (Or.inr ⟨hga, hca, hsa⟩) (Or.inr ⟨hgb, hcb, hsb⟩)) (by decide) (by decide) e57 (by rw [hml]; rfl) (rest := []) (Nat.le_of_eq rfl) (by decide) (by decide) (lenOf pd_10 rfl) rfl d10_279 282 rfl ?_
        intro T58 v58 L58 X58 hQ58
        obtain ⟨⟨zr58, rfl⟩, Nq58, Kq58⟩ := hQ58
        have N58 := Fr.app N57 Nq58
        have B_A0 := B_A0.keep Kq58 (nnA D 0 [16] rfl)
        have V_A8 := V_A8.keep Kq58 (nnA D 8 [16] rfl)
        have V_A9 := V_A9.keep Kq58 (nnA D 9 [16] rfl)
        have K := K.trans Kq58 (allS (Or.inl (List.mem_of_getElem? (i := 9) rfl)) all0)
        show GolF _ _ _ _ _ _ _ T58 m 282 #[vr (A 0), vi 2, vj 3, ss, vd 4746794007244308480, ss, vd (FP.l2d Oq51), ss, vi 0, vi 2, vi 0, vi (-1), vd (FP.l2d (prf a nd0 nd1 tk0 tk1)), ss, vi (sel a dc0 dc1), vd 4607182418800017408, ss] [(.double zr58)]
        exact Gol.retD X58 hx hby Bd.returns Bd.notSynchronized d10_282 rfl ⟨⟨_, rfl⟩, N58, K, ⟨_, _, _, _, _, _, _, B_A0⟩, gp51, gq51, ⟨_, V_A8⟩, ⟨_, V_A9⟩, Or.inr (Or.inr ⟨rfl, hsh.symm⟩)⟩ (by decide) (by decide)
abbrev dc4 (i : Nat) (x : Instr) (n : Nat) : Prop := decode jdk_35_method_50_code i = .ok (x, n)
theorem d4_0 : dc4 0 (.lload_n 0) 1 := by decide +kernel
theorem d4_1 : dc4 1 (.lload_n 0) 1 := by decide +kernel
theorem d4_2 : dc4 2 (.iconst 1) 1 := by decide +kernel
theorem d4_3 : dc4 3 .lushr 1 := by decide +kernel
theorem d4_4 : dc4 4 (.ldc2_w 314) 3 := by decide +kernel
theorem d4_7 : dc4 7 .land 1 := by decide +kernel
theorem d4_8 : dc4 8 .lsub 1 := by decide +kernel
theorem d4_9 : dc4 9 (.lstore_n 0) 1 := by decide +kernel
theorem d4_10 : dc4 10 (.lload_n 0) 1 := by decide +kernel
theorem d4_11 : dc4 11 (.ldc2_w 316) 3 := by decide +kernel
theorem d4_14 : dc4 14 .land 1 := by decide +kernel
theorem d4_15 : dc4 15 (.lload_n 0) 1 := by decide +kernel
theorem d4_16 : dc4 16 (.iconst 2) 1 := by decide +kernel
theorem d4_17 : dc4 17 .lushr 1 := by decide +kernel
theorem d4_18 : dc4 18 (.ldc2_w 316) 3 := by decide +kernel
theorem d4_21 : dc4 21 .land 1 := by decide +kernel
theorem d4_22 : dc4 22 .ladd 1 := by decide +kernel
theorem d4_23 : dc4 23 (.lstore_n 0) 1 := by decide +kernel
theorem d4_24 : dc4 24 (.lload_n 0) 1 := by decide +kernel
theorem d4_25 : dc4 25 (.lload_n 0) 1 := by decide +kernel
theorem d4_26 : dc4 26 (.iconst 4) 1 := by decide +kernel
theorem d4_27 : dc4 27 .lushr 1 := by decide +kernel
theorem d4_28 : dc4 28 .ladd 1 := by decide +kernel
theorem d4_29 : dc4 29 (.ldc2_w 318) 3 := by decide +kernel
theorem d4_32 : dc4 32 .land 1 := by decide +kernel
theorem d4_33 : dc4 33 (.lstore_n 0) 1 := by decide +kernel
theorem d4_34 : dc4 34 (.lload_n 0) 1 := by decide +kernel
theorem d4_35 : dc4 35 (.lload_n 0) 1 := by decide +kernel
theorem d4_36 : dc4 36 (.bipush 8) 2 := by decide +kernel
theorem d4_38 : dc4 38 .lushr 1 := by decide +kernel
theorem d4_39 : dc4 39 .ladd 1 := by decide +kernel
theorem d4_40 : dc4 40 (.lstore_n 0) 1 := by decide +kernel
theorem d4_41 : dc4 41 (.lload_n 0) 1 := by decide +kernel
theorem d4_42 : dc4 42 (.lload_n 0) 1 := by decide +kernel
theorem d4_43 : dc4 43 (.bipush 16) 2 := by decide +kernel
theorem d4_45 : dc4 45 .lushr 1 := by decide +kernel
theorem d4_46 : dc4 46 .ladd 1 := by decide +kernel
theorem d4_47 : dc4 47 (.lstore_n 0) 1 := by decide +kernel
theorem d4_48 : dc4 48 (.lload_n 0) 1 := by decide +kernel
theorem d4_49 : dc4 49 (.lload_n 0) 1 := by decide +kernel
theorem d4_50 : dc4 50 (.bipush 32) 2 := by decide +kernel
theorem d4_52 : dc4 52 .lushr 1 := by decide +kernel
theorem d4_53 : dc4 53 .ladd 1 := by decide +kernel
theorem d4_54 : dc4 54 (.lstore_n 0) 1 := by decide +kernel
theorem d4_55 : dc4 55 (.lload_n 0) 1 := by decide +kernel
theorem d4_56 : dc4 56 .l2i 1 := by decide +kernel
theorem d4_57 : dc4 57 (.bipush 127) 2 := by decide +kernel
theorem d4_59 : dc4 59 .iand 1 := by decide +kernel
theorem d4_60 : dc4 60 .ireturn 1 := by decide +kernel
theorem pn_4 : plainName "java/lang/Long" = true := by first | (simp [plainName, overriddenIn]; done) | decide +kernel
theorem ef_4 (m : MethodId) (q0 : Int64) : entryFrame m #[(.long q0)] 2 = mkF m 0 #[vj q0, ss] [] := by first | (simp [entryFrame, mkF, argsToLocals, Value.category]; done) | rfl
abbrev Q4 (Z : State) (q0 : Int64) (h0 : Heap) (n0 : Nat) (v : Option Value) (h : Heap) (L : List Loc) : Prop := v = some (.int 1) ∧ Fr n0 L ∧ h = h0
set_option maxRecDepth 65536 in
set_option maxHeartbeats 40000000 in
theorem rm4 (l : Launch) (Z : State) (a0 : Array Value) (hw : TW a0 Z) (ws : List Jvm.Cond) (q0 : Int64) (h0 : Heap) (n0 : Nat) (Zs : n0 ≤ h0.size) (hl : q0 = 1 ∨ q0 = 2) :
    Mt l (⟨"java/lang/Long", "bitCount", "(J)I"⟩ : MethodName) jdk_35_method_50_code 2 (some .int) ws (rmm 0 0 0 0) #[(.long q0)] Z h0 (Q4 Z q0 h0 n0) 0 0 := by
  refine own_body n0 (plainFor_of_name pn_4) hw (fun m => ef_4 m q0) ?_
  intro p ev s m below meth c s₁ Bd hZ hx hby hml hown X0 eh0 N0 w
  show GolF _ _ _ _ _ _ _ s₁ m 0 #[vj q0, ss] []
  rcases hl with rfl | rfl
  · skip
    show GolF _ _ _ _ _ _ _ s₁ m 0 #[vj 1, ss] []
    refine Gol.lloadN X0 hx hby d4_0 1 rfl rfl ?_
    refine Gol.lloadN X0 hx hby d4_1 2 rfl rfl ?_
    refine Gol.iconst X0 hx hby d4_2 3 rfl (z := (1 : Int32)) rfl ?_
    refine Gol.lushr X0 hx hby d4_3 4 rfl (z := (0 : Int64)) (by decide +kernel) ?_
    refine Gol.ldc2Long X0 hx hby hZ hown d4_4 7 rfl (w 54 _ rfl) ?_
    refine Gol.land X0 hx hby d4_7 8 rfl (z := (0 : Int64)) (by decide +kernel) ?_
    refine Gol.lsub X0 hx hby d4_8 9 rfl (z := (1 : Int64)) (by decide +kernel) ?_
    refine Gol.lstoreN X0 hx hby d4_9 10 rfl (l' := #[vj 1, ss]) rfl ?_
    refine Gol.lloadN X0 hx hby d4_10 11 rfl rfl ?_
    refine Gol.ldc2Long X0 hx hby hZ hown d4_11 14 rfl (w 55 _ rfl) ?_
    refine Gol.land X0 hx hby d4_14 15 rfl (z := (1 : Int64)) (by decide +kernel) ?_
    refine Gol.lloadN X0 hx hby d4_15 16 rfl rfl ?_
    refine Gol.iconst X0 hx hby d4_16 17 rfl (z := (2 : Int32)) rfl ?_
    refine Gol.lushr X0 hx hby d4_17 18 rfl (z := (0 : Int64)) (by decide +kernel) ?_
    refine Gol.ldc2Long X0 hx hby hZ hown d4_18 21 rfl (w 55 _ rfl) ?_
    refine Gol.land X0 hx hby d4_21 22 rfl (z := (0 : Int64)) (by decide +kernel) ?_
    refine Gol.ladd X0 hx hby d4_22 23 rfl (z := (1 : Int64)) (by decide +kernel) ?_
    refine Gol.lstoreN X0 hx hby d4_23 24 rfl (l' := #[vj 1, ss]) rfl ?_
    refine Gol.lloadN X0 hx hby d4_24 25 rfl rfl ?_
    refine Gol.lloadN X0 hx hby d4_25 26 rfl rfl ?_
    refine Gol.iconst X0 hx hby d4_26 27 rfl (z := (4 : Int32)) rfl ?_
    refine Gol.lushr X0 hx hby d4_27 28 rfl (z := (0 : Int64)) (by decide +kernel) ?_
    refine Gol.ladd X0 hx hby d4_28 29 rfl (z := (1 : Int64)) (by decide +kernel) ?_
    refine Gol.ldc2Long X0 hx hby hZ hown d4_29 32 rfl (w 56 _ rfl) ?_
    refine Gol.land X0 hx hby d4_32 33 rfl (z := (1 : Int64)) (by decide +kernel) ?_
    refine Gol.lstoreN X0 hx hby d4_33 34 rfl (l' := #[vj 1, ss]) rfl ?_
    refine Gol.lloadN X0 hx hby d4_34 35 rfl rfl ?_
    refine Gol.lloadN X0 hx hby d4_35 36 rfl rfl ?_
    refine Gol.bipush X0 hx hby d4_36 38 rfl (z := (8 : Int32)) rfl ?_
    refine Gol.lushr X0 hx hby d4_38 39 rfl (z := (0 : Int64)) (by decide +kernel) ?_
    refine Gol.ladd X0 hx hby d4_39 40 rfl (z := (1 : Int64)) (by decide +kernel) ?_
    refine Gol.lstoreN X0 hx hby d4_40 41 rfl (l' := #[vj 1, ss]) rfl ?_
    refine Gol.lloadN X0 hx hby d4_41 42 rfl rfl ?_
    refine Gol.lloadN X0 hx hby d4_42 43 rfl rfl ?_
    refine Gol.bipush X0 hx hby d4_43 45 rfl (z := (16 : Int32)) rfl ?_
    refine Gol.lushr X0 hx hby d4_45 46 rfl (z := (0 : Int64)) (by decide +kernel) ?_
    refine Gol.ladd X0 hx hby d4_46 47 rfl (z := (1 : Int64)) (by decide +kernel) ?_
    refine Gol.lstoreN X0 hx hby d4_47 48 rfl (l' := #[vj 1, ss]) rfl ?_
    refine Gol.lloadN X0 hx hby d4_48 49 rfl rfl ?_
    refine Gol.lloadN X0 hx hby d4_49 50 rfl rfl ?_
    refine Gol.bipush X0 hx hby d4_50 52 rfl (z := (32 : Int32)) rfl ?_
    refine Gol.lushr X0 hx hby d4_52 53 rfl (z := (0 : Int64)) (by decide +kernel) ?_
    refine Gol.ladd X0 hx hby d4_53 54 rfl (z := (1 : Int64)) (by decide +kernel) ?_
    refine Gol.lstoreN X0 hx hby d4_54 55 rfl (l' := #[vj 1, ss]) rfl ?_
    refine Gol.lloadN X0 hx hby d4_55 56 rfl rfl ?_
    refine Gol.l2i X0 hx hby d4_56 57 rfl (z := (1 : Int32)) (by decide +kernel) ?_
    refine Gol.bipush X0 hx hby d4_57 59 rfl (z := (127 : Int32)) rfl ?_
    refine Gol.iand X0 hx hby d4_59 60 rfl (z := (1 : Int32)) rfl ?_
    exact Gol.retI X0 hx hby Bd.returns Bd.notSynchronized d4_60 eh0 ⟨rfl, N0, rfl⟩ (by decide) (by decide)
  · skip
    show GolF _ _ _ _ _ _ _ s₁ m 0 #[vj 2, ss] []
    refine Gol.lloadN X0 hx hby d4_0 1 rfl rfl ?_
    refine Gol.lloadN X0 hx hby d4_1 2 rfl rfl ?_
    refine Gol.iconst X0 hx hby d4_2 3 rfl (z := (1 : Int32)) rfl ?_
    refine Gol.lushr X0 hx hby d4_3 4 rfl (z := (1 : Int64)) (by decide +kernel) ?_
    refine Gol.ldc2Long X0 hx hby hZ hown d4_4 7 rfl (w 54 _ rfl) ?_
    refine Gol.land X0 hx hby d4_7 8 rfl (z := (1 : Int64)) (by decide +kernel) ?_
    refine Gol.lsub X0 hx hby d4_8 9 rfl (z := (1 : Int64)) (by decide +kernel) ?_
    refine Gol.lstoreN X0 hx hby d4_9 10 rfl (l' := #[vj 1, ss]) rfl ?_
    refine Gol.lloadN X0 hx hby d4_10 11 rfl rfl ?_
    refine Gol.ldc2Long X0 hx hby hZ hown d4_11 14 rfl (w 55 _ rfl) ?_
    refine Gol.land X0 hx hby d4_14 15 rfl (z := (1 : Int64)) (by decide +kernel) ?_
    refine Gol.lloadN X0 hx hby d4_15 16 rfl rfl ?_
    refine Gol.iconst X0 hx hby d4_16 17 rfl (z := (2 : Int32)) rfl ?_
    refine Gol.lushr X0 hx hby d4_17 18 rfl (z := (0 : Int64)) (by decide +kernel) ?_
    refine Gol.ldc2Long X0 hx hby hZ hown d4_18 21 rfl (w 55 _ rfl) ?_
    refine Gol.land X0 hx hby d4_21 22 rfl (z := (0 : Int64)) (by decide +kernel) ?_
    refine Gol.ladd X0 hx hby d4_22 23 rfl (z := (1 : Int64)) (by decide +kernel) ?_
    refine Gol.lstoreN X0 hx hby d4_23 24 rfl (l' := #[vj 1, ss]) rfl ?_
    refine Gol.lloadN X0 hx hby d4_24 25 rfl rfl ?_
    refine Gol.lloadN X0 hx hby d4_25 26 rfl rfl ?_
    refine Gol.iconst X0 hx hby d4_26 27 rfl (z := (4 : Int32)) rfl ?_
    refine Gol.lushr X0 hx hby d4_27 28 rfl (z := (0 : Int64)) (by decide +kernel) ?_
    refine Gol.ladd X0 hx hby d4_28 29 rfl (z := (1 : Int64)) (by decide +kernel) ?_
    refine Gol.ldc2Long X0 hx hby hZ hown d4_29 32 rfl (w 56 _ rfl) ?_
    refine Gol.land X0 hx hby d4_32 33 rfl (z := (1 : Int64)) (by decide +kernel) ?_
    refine Gol.lstoreN X0 hx hby d4_33 34 rfl (l' := #[vj 1, ss]) rfl ?_
    refine Gol.lloadN X0 hx hby d4_34 35 rfl rfl ?_
    refine Gol.lloadN X0 hx hby d4_35 36 rfl rfl ?_
    refine Gol.bipush X0 hx hby d4_36 38 rfl (z := (8 : Int32)) rfl ?_
    refine Gol.lushr X0 hx hby d4_38 39 rfl (z := (0 : Int64)) (by decide +kernel) ?_
    refine Gol.ladd X0 hx hby d4_39 40 rfl (z := (1 : Int64)) (by decide +kernel) ?_
    refine Gol.lstoreN X0 hx hby d4_40 41 rfl (l' := #[vj 1, ss]) rfl ?_
    refine Gol.lloadN X0 hx hby d4_41 42 rfl rfl ?_
    refine Gol.lloadN X0 hx hby d4_42 43 rfl rfl ?_
    refine Gol.bipush X0 hx hby d4_43 45 rfl (z := (16 : Int32)) rfl ?_
    refine Gol.lushr X0 hx hby d4_45 46 rfl (z := (0 : Int64)) (by decide +kernel) ?_
    refine Gol.ladd X0 hx hby d4_46 47 rfl (z := (1 : Int64)) (by decide +kernel) ?_
    refine Gol.lstoreN X0 hx hby d4_47 48 rfl (l' := #[vj 1, ss]) rfl ?_
    refine Gol.lloadN X0 hx hby d4_48 49 rfl rfl ?_
    refine Gol.lloadN X0 hx hby d4_49 50 rfl rfl ?_
    refine Gol.bipush X0 hx hby d4_50 52 rfl (z := (32 : Int32)) rfl ?_
    refine Gol.lushr X0 hx hby d4_52 53 rfl (z := (0 : Int64)) (by decide +kernel) ?_
    refine Gol.ladd X0 hx hby d4_53 54 rfl (z := (1 : Int64)) (by decide +kernel) ?_
    refine Gol.lstoreN X0 hx hby d4_54 55 rfl (l' := #[vj 1, ss]) rfl ?_
    refine Gol.lloadN X0 hx hby d4_55 56 rfl rfl ?_
    refine Gol.l2i X0 hx hby d4_56 57 rfl (z := (1 : Int32)) (by decide +kernel) ?_
    refine Gol.bipush X0 hx hby d4_57 59 rfl (z := (127 : Int32)) rfl ?_
    refine Gol.iand X0 hx hby d4_59 60 rfl (z := (1 : Int32)) rfl ?_
    exact Gol.retI X0 hx hby Bd.returns Bd.notSynchronized d4_60 eh0 ⟨rfl, N0, rfl⟩ (by decide) (by decide)

theorem own_pw {e : Int32} (h : B01 e) : (((1 : Int64) <<< (e.toInt64 &&& 63)) = 1 ∨ ((1 : Int64) <<< (e.toInt64 &&& 63)) = 2) ∧ nzL ((1 : Int64) <<< (e.toInt64 &&& 63)) = e ∧ (¬ ((1 : Int64) <<< (e.toInt64 &&& 63)) = 0) ∧ (((1 : Int64) <<< (e.toInt64 &&& 63)) &&& (((1 : Int64) <<< (e.toInt64 &&& 63)) - (1 : Int64))) = 0 := by
  rcases h with rfl | rfl <;> decide +kernel
theorem own_o3 {P1 P2 P3 : Prop} (h : P1 ∨ P2) : P1 ∨ P2 ∨ P3 := h.elim Or.inl fun q => Or.inr (Or.inl q)
theorem own_g1 {b x s : Nat} (h1 : b = s) (h2 : x = s + 1) : b < x := by omega
theorem own_g2 {x y s : Nat} (h1 : x = s + 1) (h2 : y = s + 2) : x < y := by omega
theorem own_g3 {x s : Nat} (h : x = s + 1) : s ≤ x := by omega
theorem own_g4 {y s : Nat} (h : y = s + 2) : s ≤ y := by omega
def Asc : List Addr → Prop
  | a :: b :: l => a < b ∧ Asc (b :: l)
  | _ => True
theorem own_ac {a b : Addr} {l : List Addr} (h : a < b) (q : Asc (b :: l)) : Asc (a :: b :: l) := show a < b ∧ Asc (b :: l) from ⟨h, q⟩
theorem own_a1 {a : Addr} : Asc [a] := trivial
theorem own_asct {a : Addr} : ∀ {l : List Addr}, Asc (a :: l) → Asc l
  | [], _ => trivial
  | _ :: _, h => (show _ ∧ _ from h).2
theorem own_asc1 : ∀ {l : List Addr} {a : Addr}, Asc (a :: l) → ∀ x ∈ l, a < x
  | [], _, _, _, hx => by cases hx
  | b :: l, a, h, x, hx => by
    have h' : a < b ∧ Asc (b :: l) := h
    rcases List.mem_cons.mp hx with rfl | q
    · exact h'.1
    · exact Nat.lt_trans h'.1 (own_asc1 h'.2 x q)
theorem own_nodup : ∀ {l : List Addr}, Asc l → l.Nodup
  | [], _ => List.nodup_nil
  | a :: l, h => List.nodup_cons.mpr ⟨fun q => Nat.lt_irrefl _ (own_asc1 h a q), own_nodup (own_asct h)⟩
theorem own_low {a : Addr} {l : List Addr} (h : Asc (a :: l)) {n : Nat} (q : n ≤ a) : ∀ x ∈ a :: l, n ≤ x := by
  intro x hx
  rcases List.mem_cons.mp hx with rfl | hx
  · exact q
  · exact Nat.le_trans q (Nat.le_of_lt (own_asc1 h x hx))
theorem own_high : ∀ {l : List Addr} {b : Addr}, Asc (l ++ [b]) → Asc l ∧ ∀ x ∈ l, x < b
  | [], _, _ => ⟨trivial, fun _ h => by cases h⟩
  | [a], b, h => ⟨trivial, fun x hx => by
      have h' : a < b ∧ Asc [b] := h
      rcases List.mem_cons.mp hx with rfl | q
      · exact h'.1
      · cases q⟩
  | a :: c :: l, b, h => by
      have h' : a < c ∧ Asc ((c :: l) ++ [b]) := h
      obtain ⟨r1, r2⟩ := own_high h'.2
      refine ⟨own_ac h'.1 r1, fun x hx => ?_⟩
      rcases List.mem_cons.mp hx with rfl | q
      · exact Nat.lt_trans h'.1 (r2 c (List.mem_cons_self ..))
      · exact r2 x q
def own_pm : List Nat := [4, 0, 1, 2, 3, 10, 11, 12, 13, 14, 15, 16, 17, 18, 19, 20, 21, 5, 6, 7, 8, 9]
theorem own_pmf : ∀ i : Fin 22, own_pm.getD i.val 0 < 22 ∧ ∀ j : Fin 22, i.val ≠ j.val → own_pm.getD i.val 0 ≠ own_pm.getD j.val 0 := by decide +kernel
theorem own_gd {l : List Addr} {n : Nat} (h : n < l.length) : l[n]? = some (l.getD n 0) := by
  rw [List.getD_eq_getElem?_getD, List.getElem?_eq_getElem h]; rfl
theorem own_dis {A : Nat → Addr} {l : List Addr} (hA : ∀ i, A i = l.getD (own_pm.getD i 0) 0) (hn : l.length = 22) (hl : Asc l) : DisA A := by
  intro i j hij e
  have q := hij
  simp only [Bool.and_eq_true, decide_eq_true_eq, bne_iff_ne] at q
  obtain ⟨⟨q1, q2⟩, q3⟩ := q
  obtain ⟨p1, p2⟩ := own_pmf ⟨i, q2⟩
  obtain ⟨p3, -⟩ := own_pmf ⟨j, q3⟩
  rw [hA, hA] at e
  refine p2 ⟨j, q3⟩ q1 ?_
  refine (List.getElem?_inj (by rw [hn]; exact p1) (own_nodup hl)).mp ?_
  rw [own_gd (l := l) (n := own_pm.getD i 0) (by rw [hn]; exact p1), own_gd (l := l) (n := own_pm.getD j 0) (by rw [hn]; exact p3)]
  exact congrArg some e
theorem own_mem {A : Nat → Addr} {l : List Addr} (hA : ∀ i, A i = l.getD (own_pm.getD i 0) 0) (hn : l.length = 22) (i : Nat) (q : decide (i < 22) = true) : A i ∈ l := by
  rw [hA]
  exact List.mem_of_getElem? (own_gd (by rw [hn]; exact (own_pmf ⟨i, of_decide_eq_true q⟩).1))
abbrev AE : Type := Addr × ClassId × FieldType × Int32 × List Value × Value
def Ars (Z : State) (h : Heap) (l : List AE) : Prop := ∀ t ∈ l, Arv Z h t.1 t.2.1 t.2.2.1 t.2.2.2.1 t.2.2.2.2.1 t.2.2.2.2.2
section ArsS
variable {Z : State} {h h' : Heap} {l : List AE} {a r : Addr} {k : ClassId} {ty : FieldType} {z : Int32} {vs : List Value} {d v : Value} {sl : Nat}
theorem Ars.nil : Ars Z h [] := fun _ q => by cases q
theorem Ars.cons (B : Ars Z h l) (V : Arv Z h a k ty z vs d) : Ars Z h ((a, k, ty, z, vs, d) :: l) := fun t q => by
  rcases List.mem_cons.mp q with rfl | q
  · exact V
  · exact B t q
theorem Ars.ext (B : Ars Z h l) (E : Ext h h') : Ars Z h' l := fun t q => (B t q).ext E
theorem Ars.other (B : Ars Z h l) (W : Wr h h' a sl v) (n : ∀ t ∈ l, t.1 ≠ a) : Ars Z h' l := fun t q => (B t q).other W (n t q)
theorem own_nr0 : ∀ t ∈ ([] : List AE), t.1 ≠ r := fun _ q => by cases q
theorem own_nr (n : ∀ t ∈ l, t.1 ≠ r) (q : r ≠ a) : ∀ t ∈ ((a, k, ty, z, vs, d) :: l : List AE), t.1 ≠ r := fun t p => by
  rcases List.mem_cons.mp p with rfl | p
  · exact q.symm
  · exact n t p
theorem Ars.nb (B : Ars Z h l) (g : r = h.size) : ∀ t ∈ l, t.1 ≠ r := fun t q => Nat.ne_of_lt (Nat.lt_of_lt_of_le (B t q).lt (Nat.le_of_eq g.symm))
end ArsS

abbrev dc2 (i : Nat) (x : Instr) (n : Nat) : Prop := decode prog_8_method_2_code i = .ok (x, n)
theorem d2_0 : dc2 0 (.aload_n 0) 1 := by decide +kernel
theorem d2_1 : dc2 1 (.invokespecial 7) 3 := by decide +kernel
theorem d2_4 : dc2 4 (.aload_n 0) 1 := by decide +kernel
theorem d2_5 : dc2 5 (.bipush 8) 2 := by decide +kernel
theorem d2_7 : dc2 7 (.newarray .int) 2 := by decide +kernel
theorem d2_9 : dc2 9 (.putfield 12) 3 := by decide +kernel
theorem d2_12 : dc2 12 (.aload_n 0) 1 := by decide +kernel
theorem d2_13 : dc2 13 (.bipush 8) 2 := by decide +kernel
theorem d2_15 : dc2 15 (.newarray .double) 2 := by decide +kernel
theorem d2_17 : dc2 17 (.putfield 16) 3 := by decide +kernel
theorem d2_20 : dc2 20 (.aload_n 0) 1 := by decide +kernel
theorem d2_21 : dc2 21 (.iconst 0) 1 := by decide +kernel
theorem d2_22 : dc2 22 (.anewarray 20) 3 := by decide +kernel
theorem d2_25 : dc2 25 (.putfield 22) 3 := by decide +kernel
theorem d2_28 : dc2 28 (.aload_n 0) 1 := by decide +kernel
theorem d2_29 : dc2 29 (.iconst 0) 1 := by decide +kernel
theorem d2_30 : dc2 30 (.anewarray 26) 3 := by decide +kernel
theorem d2_33 : dc2 33 (.putfield 27) 3 := by decide +kernel
theorem d2_36 : dc2 36 (.aload_n 0) 1 := by decide +kernel
theorem d2_37 : dc2 37 (.iconst 0) 1 := by decide +kernel
theorem d2_38 : dc2 38 (.anewarray 31) 3 := by decide +kernel
theorem d2_41 : dc2 41 (.putfield 32) 3 := by decide +kernel
theorem d2_44 : dc2 44 (.aload_n 0) 1 := by decide +kernel
theorem d2_45 : dc2 45 (.iload 6) 2 := by decide +kernel
theorem d2_47 : dc2 47 (.putfield 35) 3 := by decide +kernel
theorem d2_50 : dc2 50 (.aload_n 0) 1 := by decide +kernel
theorem d2_51 : dc2 51 (.aload_n 1) 1 := by decide +kernel
theorem d2_52 : dc2 52 .arraylength 1 := by decide +kernel
theorem d2_53 : dc2 53 (.putfield 39) 3 := by decide +kernel
theorem d2_56 : dc2 56 (.aload_n 0) 1 := by decide +kernel
theorem d2_57 : dc2 57 (.aload_n 1) 1 := by decide +kernel
theorem d2_58 : dc2 58 (.putfield 42) 3 := by decide +kernel
theorem d2_61 : dc2 61 (.aload_n 0) 1 := by decide +kernel
theorem d2_62 : dc2 62 (.aload_n 3) 1 := by decide +kernel
theorem d2_63 : dc2 63 (.putfield 45) 3 := by decide +kernel
theorem d2_66 : dc2 66 (.aload_n 0) 1 := by decide +kernel
theorem d2_67 : dc2 67 (.aload 4) 2 := by decide +kernel
theorem d2_69 : dc2 69 (.putfield 48) 3 := by decide +kernel
theorem d2_72 : dc2 72 (.aload_n 0) 1 := by decide +kernel
theorem d2_73 : dc2 73 (.aload 5) 2 := by decide +kernel
theorem d2_75 : dc2 75 (.putfield 51) 3 := by decide +kernel
theorem d2_78 : dc2 78 (.aload_n 0) 1 := by decide +kernel
theorem d2_79 : dc2 79 (.aload_n 3) 1 := by decide +kernel
theorem d2_80 : dc2 80 .arraylength 1 := by decide +kernel
theorem d2_81 : dc2 81 (.putfield 54) 3 := by decide +kernel
theorem d2_84 : dc2 84 (.aload_n 0) 1 := by decide +kernel
theorem d2_85 : dc2 85 (.aload_n 0) 1 := by decide +kernel
theorem d2_86 : dc2 86 (.getfield 54) 3 := by decide +kernel
theorem d2_89 : dc2 89 (.iconst 1) 1 := by decide +kernel
theorem d2_90 : dc2 90 .iadd 1 := by decide +kernel
theorem d2_91 : dc2 91 (.newarray .int) 2 := by decide +kernel
theorem d2_93 : dc2 93 (.putfield 57) 3 := by decide +kernel
theorem d2_96 : dc2 96 (.iconst 0) 1 := by decide +kernel
theorem d2_97 : dc2 97 (.istore 7) 2 := by decide +kernel
theorem d2_99 : dc2 99 (.iload 7) 2 := by decide +kernel
theorem d2_101 : dc2 101 (.aload_n 0) 1 := by decide +kernel
theorem d2_102 : dc2 102 (.getfield 54) 3 := by decide +kernel
theorem d2_105 : dc2 105 (.if_icmp .ge 33) 3 := by decide +kernel
theorem d2_108 : dc2 108 (.aload_n 0) 1 := by decide +kernel
theorem d2_109 : dc2 109 (.getfield 57) 3 := by decide +kernel
theorem d2_112 : dc2 112 (.iload 7) 2 := by decide +kernel
theorem d2_114 : dc2 114 (.iconst 1) 1 := by decide +kernel
theorem d2_115 : dc2 115 .iadd 1 := by decide +kernel
theorem d2_116 : dc2 116 (.aload_n 0) 1 := by decide +kernel
theorem d2_117 : dc2 117 (.getfield 57) 3 := by decide +kernel
theorem d2_120 : dc2 120 (.iload 7) 2 := by decide +kernel
theorem d2_122 : dc2 122 .iaload 1 := by decide +kernel
theorem d2_123 : dc2 123 (.aload_n 2) 1 := by decide +kernel
theorem d2_124 : dc2 124 (.iload 7) 2 := by decide +kernel
theorem d2_126 : dc2 126 .laload 1 := by decide +kernel
theorem d2_127 : dc2 127 (.invokestatic 60) 3 := by decide +kernel
theorem d2_130 : dc2 130 .iadd 1 := by decide +kernel
theorem d2_131 : dc2 131 .iastore 1 := by decide +kernel
theorem d2_132 : dc2 132 (.iinc 7 1) 3 := by decide +kernel
theorem d2_135 : dc2 135 (.goto (-36)) 3 := by decide +kernel
theorem d2_138 : dc2 138 (.aload_n 0) 1 := by decide +kernel
theorem d2_139 : dc2 139 (.aload_n 0) 1 := by decide +kernel
theorem d2_140 : dc2 140 (.getfield 57) 3 := by decide +kernel
theorem d2_143 : dc2 143 (.aload_n 0) 1 := by decide +kernel
theorem d2_144 : dc2 144 (.getfield 54) 3 := by decide +kernel
theorem d2_147 : dc2 147 .iaload 1 := by decide +kernel
theorem d2_148 : dc2 148 (.newarray .int) 2 := by decide +kernel
theorem d2_150 : dc2 150 (.putfield 66) 3 := by decide +kernel
theorem d2_153 : dc2 153 (.iconst 0) 1 := by decide +kernel
theorem d2_154 : dc2 154 (.istore 7) 2 := by decide +kernel
theorem d2_156 : dc2 156 (.iload 7) 2 := by decide +kernel
theorem d2_158 : dc2 158 (.aload_n 0) 1 := by decide +kernel
theorem d2_159 : dc2 159 (.getfield 54) 3 := by decide +kernel
theorem d2_162 : dc2 162 (.if_icmp .ge 58) 3 := by decide +kernel
theorem d2_165 : dc2 165 (.aload_n 0) 1 := by decide +kernel
theorem d2_166 : dc2 166 (.getfield 57) 3 := by decide +kernel
theorem d2_169 : dc2 169 (.iload 7) 2 := by decide +kernel
theorem d2_171 : dc2 171 .iaload 1 := by decide +kernel
theorem d2_172 : dc2 172 (.istore 8) 2 := by decide +kernel
theorem d2_174 : dc2 174 (.aload_n 2) 1 := by decide +kernel
theorem d2_175 : dc2 175 (.iload 7) 2 := by decide +kernel
theorem d2_177 : dc2 177 .laload 1 := by decide +kernel
theorem d2_178 : dc2 178 (.lstore 9) 2 := by decide +kernel
theorem d2_180 : dc2 180 (.lload 9) 2 := by decide +kernel
theorem d2_182 : dc2 182 (.lconst 0) 1 := by decide +kernel
theorem d2_183 : dc2 183 .lcmp 1 := by decide +kernel
theorem d2_184 : dc2 184 (.ifCond .eq 30) 3 := by decide +kernel
theorem d2_187 : dc2 187 (.aload_n 0) 1 := by decide +kernel
theorem d2_188 : dc2 188 (.getfield 66) 3 := by decide +kernel
theorem d2_191 : dc2 191 (.iload 8) 2 := by decide +kernel
theorem d2_193 : dc2 193 (.iinc 8 1) 3 := by decide +kernel
theorem d2_196 : dc2 196 (.lload 9) 2 := by decide +kernel
theorem d2_198 : dc2 198 (.invokestatic 69) 3 := by decide +kernel
theorem d2_201 : dc2 201 .iastore 1 := by decide +kernel
theorem d2_202 : dc2 202 (.lload 9) 2 := by decide +kernel
theorem d2_204 : dc2 204 (.lload 9) 2 := by decide +kernel
theorem d2_206 : dc2 206 (.lconst 1) 1 := by decide +kernel
theorem d2_207 : dc2 207 .lsub 1 := by decide +kernel
theorem d2_208 : dc2 208 .land 1 := by decide +kernel
theorem d2_209 : dc2 209 (.lstore 9) 2 := by decide +kernel
theorem d2_211 : dc2 211 (.goto (-31)) 3 := by decide +kernel
theorem d2_214 : dc2 214 (.iinc 7 1) 3 := by decide +kernel
theorem d2_217 : dc2 217 (.goto (-61)) 3 := by decide +kernel
theorem d2_220 : dc2 220 (.aload_n 0) 1 := by decide +kernel
theorem d2_221 : dc2 221 (.aload_n 0) 1 := by decide +kernel
theorem d2_222 : dc2 222 (.getfield 54) 3 := by decide +kernel
theorem d2_225 : dc2 225 (.iconst 2) 1 := by decide +kernel
theorem d2_226 : dc2 226 (.aload_n 0) 1 := by decide +kernel
theorem d2_227 : dc2 227 (.getfield 39) 3 := by decide +kernel
theorem d2_230 : dc2 230 .imul 1 := by decide +kernel
theorem d2_231 : dc2 231 .iadd 1 := by decide +kernel
theorem d2_232 : dc2 232 (.newarray .int) 2 := by decide +kernel
theorem d2_234 : dc2 234 (.putfield 72) 3 := by decide +kernel
theorem d2_237 : dc2 237 (.aload_n 0) 1 := by decide +kernel
theorem d2_238 : dc2 238 (.aload_n 0) 1 := by decide +kernel
theorem d2_239 : dc2 239 (.getfield 39) 3 := by decide +kernel
theorem d2_242 : dc2 242 (.newarray .int) 2 := by decide +kernel
theorem d2_244 : dc2 244 (.putfield 75) 3 := by decide +kernel
theorem d2_247 : dc2 247 (.aload_n 0) 1 := by decide +kernel
theorem d2_248 : dc2 248 (.aload_n 0) 1 := by decide +kernel
theorem d2_249 : dc2 249 (.getfield 39) 3 := by decide +kernel
theorem d2_252 : dc2 252 (.newarray .double) 2 := by decide +kernel
theorem d2_254 : dc2 254 (.putfield 78) 3 := by decide +kernel
theorem d2_257 : dc2 257 (.aload_n 0) 1 := by decide +kernel
theorem d2_258 : dc2 258 (.aload_n 0) 1 := by decide +kernel
theorem d2_259 : dc2 259 (.getfield 39) 3 := by decide +kernel
theorem d2_262 : dc2 262 (.aload_n 0) 1 := by decide +kernel
theorem d2_263 : dc2 263 (.getfield 39) 3 := by decide +kernel
theorem d2_266 : dc2 266 (.multianewarray 20 2) 4 := by decide +kernel
theorem d2_270 : dc2 270 (.putfield 81) 3 := by decide +kernel
theorem d2_273 : dc2 273 (.aload_n 0) 1 := by decide +kernel
theorem d2_274 : dc2 274 (.aload_n 0) 1 := by decide +kernel
theorem d2_275 : dc2 275 (.getfield 39) 3 := by decide +kernel
theorem d2_278 : dc2 278 (.newarray .double) 2 := by decide +kernel
theorem d2_280 : dc2 280 (.putfield 84) 3 := by decide +kernel
theorem d2_283 : dc2 283 (.aload_n 0) 1 := by decide +kernel
theorem d2_284 : dc2 284 (.aload_n 0) 1 := by decide +kernel
theorem d2_285 : dc2 285 (.getfield 39) 3 := by decide +kernel
theorem d2_288 : dc2 288 (.newarray .double) 2 := by decide +kernel
theorem d2_290 : dc2 290 (.putfield 87) 3 := by decide +kernel
theorem d2_293 : dc2 293 (.aload_n 0) 1 := by decide +kernel
theorem d2_294 : dc2 294 (.aload_n 0) 1 := by decide +kernel
theorem d2_295 : dc2 295 (.getfield 39) 3 := by decide +kernel
theorem d2_298 : dc2 298 (.newarray .double) 2 := by decide +kernel
theorem d2_300 : dc2 300 (.putfield 90) 3 := by decide +kernel
theorem d2_303 : dc2 303 (.aload_n 0) 1 := by decide +kernel
theorem d2_304 : dc2 304 (.aload_n 0) 1 := by decide +kernel
theorem d2_305 : dc2 305 (.getfield 39) 3 := by decide +kernel
theorem d2_308 : dc2 308 (.newarray .double) 2 := by decide +kernel
theorem d2_310 : dc2 310 (.putfield 93) 3 := by decide +kernel
theorem d2_313 : dc2 313 (.aload_n 0) 1 := by decide +kernel
theorem d2_314 : dc2 314 (.invokevirtual 96) 3 := by decide +kernel
theorem d2_317 : dc2 317 .return_ 1 := by decide +kernel
theorem pn_2 : plainName "com/example/quorumstone/quorumstone/check/Relaxation" = true := by first | (simp [plainName, overriddenIn]; done) | decide +kernel
theorem ef_Ini (m : MethodId) (r0 : Addr) (r1 : Addr) (r2 : Addr) (r3 : Addr) (r4 : Addr) (r5 : Addr) (p6 : Int32) : entryFrame m #[(.ref r0), (.ref r1), (.ref r2), (.ref r3), (.ref r4), (.ref r5), (.int p6)] 11 = mkF m 0 #[vr r0, vr r1, vr r2, vr r3, vr r4, vr r5, vi p6, uu, uu, uu, uu] [] := by first | (simp [entryFrame, mkF, argsToLocals, Value.category]; done) | rfl
abbrev QIni (Z : State) (r0 r1 r2 r3 r4 r5 : Addr) (p6 : Int32) (q0 q1 : Int64) (y0 y1 y2 y3 : Value) (dc0 dc1 : Int32) (h0 : Heap) (n0 : Nat) (v : Option Value) (h : Heap) (L : List Loc) : Prop := v = none ∧ Fr n0 L ∧ Keep h0 h [r0] ∧ ∃ A : Nat → Addr, A 0 = r0 ∧ A 1 = r1 ∧ A 2 = r3 ∧ A 3 = r4 ∧ A 4 = r5 ∧ DisA A ∧ FreA A n0 ∧ (∀ i : Nat, decide (i < 22) = true → A i < h.size) ∧ Exa Z h (A 0) "com/example/quorumstone/quorumstone/check/Relaxation" ∧ FL Z h (A 0) (rxv A p6 (0 : Int32) (0 : Int32) (0 : Int32) (0 : Int32) (0 : Int64) (0 : Int32)) ∧ Vv Z h (A 5) .int (3 : Int32) [(.int 0), (.int 1), (.int 2)] (.int 0) ∧ Vv Z h (A 6) .int (2 : Int32) [(.int dc0), (.int dc1)] (.int 0) ∧ Vv Z h (A 7) .int (6 : Int32) [(.int (-1)), (.int (-1)), (.int (-1)), (.int (-1)), (.int 0), (.int 1)] (.int 0) ∧ Vv Z h (A 8) .int (2 : Int32) [(.int 4), (.int 5)] (.int 0) ∧ Vv Z h (A 9) .double (2 : Int32) [(.double 4607182418800017408), (.double 4607182418800017408)] (.double 0) ∧ Vv Z h (A 10) (.array .double) (2 : Int32) [(.ref (A 11)), (.ref (A 12))] .null ∧ Vv Z h (A 11) .double (2 : Int32) [(.double 4607182418800017408), (.double 0)] (.double 0) ∧ Vv Z h (A 12) .double (2 : Int32) [(.double 0), (.double 4607182418800017408)] (.double 0) ∧ Vv Z h (A 13) .double (2 : Int32) [(.double 0), (.double 0)] (.double 0) ∧ Vv Z h (A 14) .double (2 : Int32) [(.double 0), (.double 0)] (.double 0) ∧ Vv Z h (A 15) .double (2 : Int32) [(.double 0), (.double 0)] (.double 0) ∧ Vv Z h (A 16) .double (2 : Int32) [(.double 0), (.double 0)] (.double 0) ∧ Vv Z h (A 17) .int (8 : Int32) [(.int 0), (.int 0), (.int 0), (.int 0), (.int 0), (.int 0), (.int 0), (.int 0)] (.int 0) ∧ Vv Z h (A 18) .double (8 : Int32) [(.double 0), (.double 0), (.double 0), (.double 0), (.double 0), (.double 0), (.double 0), (.double 0)] (.double 0)
set_option maxRecDepth 65536 in
set_option maxHeartbeats 40000000 in
theorem rmIni (l : Launch) (Z : State) (a0 : Array Value) (hw : TW a0 Z) (ws : List Jvm.Cond) (r0 r1 r2 r3 r4 r5 : Addr) (p6 : Int32) (q0 q1 : Int64) (y0 y1 y2 y3 : Value) (dc0 dc1 : Int32) (h0 : Heap) (n0 : Nat) (Zs : n0 ≤ h0.size) (B_r0 : FL Z h0 r0 [.null, .null, .null, .null, .null, (.int 0), (.int 0), .null, .null, .null, .null, (.int 0), .null, .null, .null, .null, .null, .null, .null, .null, .null, .null, (.int 0), (.long 0), (.int 0), (.int 0), (.int 0), (.int 0)]) (E_r0 : Exa Z h0 r0 "com/example/quorumstone/quorumstone/check/Relaxation") (Pr1 : Vv Z h0 r1 .int (2 : Int32) [y0, y1] (.int 0)) (Pr2 : Vv Z h0 r2 .long (2 : Int32) [(.long q0), (.long q1)] (.long 0)) (Pr3 : Vv Z h0 r3 .int (2 : Int32) [y2, y3] (.int 0)) (ho1 : r1 < r3) (ho2 : r3 < r4) (ho3 : r4 < r5) (ho4 : r5 < r0) (ne_r1_r0 : r1 ≠ r0) (ne_r2_r0 : r2 ≠ r0) (ne_r3_r0 : r3 ≠ r0) (g_r1 : n0 ≤ r1) (g_r0 : n0 ≤ r0) (hb0 : q0 = 1 ∨ q0 = 2) (ht0 : nzL q0 = dc0) (hz0 : ¬ q0 = 0) (hy0 : (q0 &&& (q0 - (1 : Int64))) = 0) (hb1 : q1 = 1 ∨ q1 = 2) (ht1 : nzL q1 = dc1) (hz1 : ¬ q1 = 0) (hy1 : (q1 &&& (q1 - (1 : Int64))) = 0) :
    Mt l (⟨"com/example/quorumstone/quorumstone/check/Relaxation", "<init>", "([I[J[I[I[II)V"⟩ : MethodName) prog_8_method_2_code 11 none ws (rmm 2 17 45 32) #[(.ref r0), (.ref r1), (.ref r2), (.ref r3), (.ref r4), (.ref r5), (.int p6)] Z h0 (QIni Z r0 r1 r2 r3 r4 r5 p6 q0 q1 y0 y1 y2 y3 dc0 dc1 h0 n0) 17 45 := by
  refine own_body n0 (plainFor_of_name pn_2) hw (fun m => ef_Ini m r0 r1 r2 r3 r4 r5 p6) ?_
  intro p ev s m below meth c s₁ Bd hZ hx hby hml hown X0 eh0 N0 w
  have hnm := (name_of_methodNamed Bd.named Bd.method).1
  obtain ⟨kr1, V_r1⟩ := Pr1
  obtain ⟨kr2, V_r2⟩ := Pr2
  obtain ⟨kr3, V_r3⟩ := Pr3
  have nn_r1 : r1 ∉ [r0] := (ninS ne_r1_r0 nin0)
  have nn_r2 : r2 ∉ [r0] := (ninS ne_r2_r0 nin0)
  have nn_r3 : r3 ∉ [r0] := (ninS ne_r3_r0 nin0)
  have LA := own_LA hw
  have AR : Ars Z h0 [] := Ars.nil
  have NB_r0 := own_nr0 (r := r0)
  have K := Keep.refl h0 [r0]
  show GolF _ _ _ _ _ _ _ s₁ m 0 #[vr r0, vr r1, vr r2, vr r3, vr r4, vr r5, vi p6, uu, uu, uu, uu] []
  refine Gol.aloadN X0 hx hby d2_0 1 rfl rfl rfl ?_
  refine Gol.initO X0 hx hby hZ hown (w 14 _ rfl) (w 15 _ rfl) (w 16 _ rfl) eh0 0 d2_1 4 rfl (by rw [hml]; rfl) (by decide) (Nat.le_of_eq rfl) (by decide) ?_
  intro T1 X1 e1
  refine Gol.aloadN X1 hx hby d2_4 5 rfl rfl rfl ?_
  refine Gol.bipush X1 hx hby d2_5 7 rfl (z := (8 : Int32)) rfl ?_
  refine Gol.newarr X1 hx hby hZ (w 5 _ rfl) e1 8 d2_7 9 rfl (by decide) (by decide) (by decide) (by decide) (by decide) ?_
  intro T2 h2 k2 b2 g2 X2 e2 E2 A2
  have lo_b2 : r0 < b2 := Nat.lt_of_lt_of_le E_r0.lt (Nat.le_of_eq g2.symm)
  have ne_r0_b2 : r0 ≠ b2 := Nat.ne_of_lt (Nat.lt_of_lt_of_le E_r0.lt (Nat.le_of_eq g2.symm))
  have E_r0 := E_r0.ext E2
  have B_r0 := B_r0.ext E2
  have K := K.ext E2
  have Zs := Nat.le_trans Zs E2.1
  have AR := AR.ext E2
  have V_b2 : Arv Z h2 b2 k2 .int (8 : Int32) [(.int 0), (.int 0), (.int 0), (.int 0), (.int 0), (.int 0), (.int 0), (.int 0)] (.int 0) := A2.pad (pad_rep [] (.int 0) 8)
  have AR := AR.cons V_b2
  have NB_r0 := own_nr (k := k2) (ty := .int) (z := (8 : Int32)) (vs := [(.int 0), (.int 0), (.int 0), (.int 0), (.int 0), (.int 0), (.int 0), (.int 0)]) (d := (.int 0)) NB_r0 ne_r0_b2
  refine Gol.putF X2 hx hby hZ hown (host := "") (Or.inl (w 17 _ rfl)) Via.refl e2 (B_r0 0 _ _ _ rfl rfl) E_r0 (Or.inr ⟨(w 18 _ rfl), rfl, hnm⟩) (w 9 _ rfl) (ty := (.array .int)) (by decide) rfl rfl d2_9 12 rfl ?_
  intro T3 h3 X3 e3 W3
  have AR := AR.other W3 NB_r0
  have E_r0 := E_r0.wr W3
  have K := K.wr W3 (Or.inl (List.mem_of_getElem? (i := 0) rfl))
  have Zs := Nat.le_trans Zs (Keep.of_wr W3).1
  have B_r0 : FL Z h3 r0 [(.ref b2), .null, .null, .null, .null, (.int 0), (.int 0), .null, .null, .null, .null, (.int 0), .null, .null, .null, .null, .null, .null, .null, .null, .null, .null, (.int 0), (.long 0), (.int 0), (.int 0), (.int 0), (.int 0)] := B_r0.put LA (i0 := 0) rfl W3
  have N3 := Fr.snoc X3 N0 g_r0
  refine Gol.aloadN X3 hx hby d2_12 13 rfl rfl rfl ?_
  refine Gol.bipush X3 hx hby d2_13 15 rfl (z := (8 : Int32)) rfl ?_
  refine Gol.newarr X3 hx hby hZ (w 19 _ rfl) e3 8 d2_15 17 rfl (by decide) (by decide) (by decide) (by decide) (by decide) ?_
  intro T4 h4 k4 b4 g4 X4 e4 E4 A4
  have lo_b4 : b2 < b4 := Nat.lt_of_lt_of_le (AR _ (List.mem_of_getElem? (i := 0) rfl)).lt (Nat.le_of_eq g4.symm)
  have ne_r0_b4 : r0 ≠ b4 := Nat.ne_of_lt (Nat.lt_of_lt_of_le E_r0.lt (Nat.le_of_eq g4.symm))
  have E_r0 := E_r0.ext E4
  have B_r0 := B_r0.ext E4
  have K := K.ext E4
  have Zs := Nat.le_trans Zs E4.1
  have AR := AR.ext E4
  have V_b4 : Arv Z h4 b4 k4 .double (8 : Int32) [(.double 0), (.double 0), (.double 0), (.double 0), (.double 0), (.double 0), (.double 0), (.double 0)] (.double 0) := A4.pad (pad_rep [] (.double 0) 8)
  have AR := AR.cons V_b4
  have NB_r0 := own_nr (k := k4) (ty := .double) (z := (8 : Int32)) (vs := [(.double 0), (.double 0), (.double 0), (.double 0), (.double 0), (.double 0), (.double 0), (.double 0)]) (d := (.double 0)) NB_r0 ne_r0_b4
  refine Gol.putF X4 hx hby hZ hown (host := "") (Or.inl (w 20 _ rfl)) Via.refl e4 (B_r0 1 _ _ _ rfl rfl) E_r0 (Or.inr ⟨(w 21 _ rfl), rfl, hnm⟩) (w 9 _ rfl) (ty := (.array .double)) (by decide) rfl rfl d2_17 20 rfl ?_
  intro T5 h5 X5 e5 W5
  have AR := AR.other W5 NB_r0
  have E_r0 := E_r0.wr W5
  have K := K.wr W5 (Or.inl (List.mem_of_getElem? (i := 0) rfl))
  have Zs := Nat.le_trans Zs (Keep.of_wr W5).1
  have B_r0 : FL Z h5 r0 [(.ref b2), (.ref b4), .null, .null, .null, (.int 0), (.int 0), .null, .null, .null, .null, (.int 0), .null, .null, .null, .null, .null, .null, .null, .null, .null, .null, (.int 0), (.long 0), (.int 0), (.int 0), (.int 0), (.int 0)] := B_r0.put LA (i0 := 1) rfl W5
  have N5 := Fr.snoc X5 N3 g_r0
  refine Gol.aloadN X5 hx hby d2_20 21 rfl rfl rfl ?_
  refine Gol.iconst X5 hx hby d2_21 22 rfl (z := (0 : Int32)) rfl ?_
  refine Gol.newrefA X5 hx hby hZ hown (ty := (.array .double)) (by first | rfl | decide | decide +kernel) (w 22 _ rfl) (w 23 _ rfl) e5 0 d2_22 25 rfl (by decide) (by decide) (by decide) (by decide) (by decide) ?_
  intro T6 h6 k6 b6 g6 X6 e6 E6 A6 _
  have lo_b6 : b4 < b6 := Nat.lt_of_lt_of_le (AR _ (List.mem_of_getElem? (i := 0) rfl)).lt (Nat.le_of_eq g6.symm)
  have ne_r0_b6 : r0 ≠ b6 := Nat.ne_of_lt (Nat.lt_of_lt_of_le E_r0.lt (Nat.le_of_eq g6.symm))
  have E_r0 := E_r0.ext E6
  have B_r0 := B_r0.ext E6
  have K := K.ext E6
  have Zs := Nat.le_trans Zs E6.1
  have AR := AR.ext E6
  have V_b6 : Arv Z h6 b6 k6 (.array (.array .double)) (0 : Int32) [] .null := A6
  have AR := AR.cons V_b6
  have NB_r0 := own_nr (k := k6) (ty := (.array (.array .double))) (z := (0 : Int32)) (vs := []) (d := .null) NB_r0 ne_r0_b6
  refine Gol.putF X6 hx hby hZ hown (host := "") (Or.inl (w 24 _ rfl)) Via.refl e6 (B_r0 2 _ _ _ rfl rfl) E_r0 (Or.inl (w 25 _ rfl)) (w 9 _ rfl) (ty := (.array (.array (.array .double)))) (by decide) rfl rfl d2_25 28 rfl ?_
  intro T7 h7 X7 e7 W7
  have AR := AR.other W7 NB_r0
  have E_r0 := E_r0.wr W7
  have K := K.wr W7 (Or.inl (List.mem_of_getElem? (i := 0) rfl))
  have Zs := Nat.le_trans Zs (Keep.of_wr W7).1
  have B_r0 : FL Z h7 r0 [(.ref b2), (.ref b4), (.ref b6), .null, .null, (.int 0), (.int 0), .null, .null, .null, .null, (.int 0), .null, .null, .null, .null, .null, .null, .null, .null, .null, .null, (.int 0), (.long 0), (.int 0), (.int 0), (.int 0), (.int 0)] := B_r0.put LA (i0 := 2) rfl W7
  have N7 := Fr.snoc X7 N5 g_r0
  refine Gol.aloadN X7 hx hby d2_28 29 rfl rfl rfl ?_
  refine Gol.iconst X7 hx hby d2_29 30 rfl (z := (0 : Int32)) rfl ?_
  refine Gol.newrefA X7 hx hby hZ hown (ty := .int) (by first | rfl | decide | decide +kernel) (w 26 _ rfl) (w 27 _ rfl) e7 0 d2_30 33 rfl (by decide) (by decide) (by decide) (by decide) (by decide) ?_
  intro T8 h8 k8 b8 g8 X8 e8 E8 A8 _
  have lo_b8 : b6 < b8 := Nat.lt_of_lt_of_le (AR _ (List.mem_of_getElem? (i := 0) rfl)).lt (Nat.le_of_eq g8.symm)
  have ne_r0_b8 : r0 ≠ b8 := Nat.ne_of_lt (Nat.lt_of_lt_of_le E_r0.lt (Nat.le_of_eq g8.symm))
  have E_r0 := E_r0.ext E8
  have B_r0 := B_r0.ext E8
  have K := K.ext E8
  have Zs := Nat.le_trans Zs E8.1
  have AR := AR.ext E8
  have V_b8 : Arv Z h8 b8 k8 (.array .int) (0 : Int32) [] .null := A8
  have AR := AR.cons V_b8
  have NB_r0 := own_nr (k := k8) (ty := (.array .int)) (z := (0 : Int32)) (vs := []) (d := .null) NB_r0 ne_r0_b8
  refine Gol.putF X8 hx hby hZ hown (host := "") (Or.inl (w 28 _ rfl)) Via.refl e8 (B_r0 3 _ _ _ rfl rfl) E_r0 (Or.inl (w 29 _ rfl)) (w 9 _ rfl) (ty := (.array (.array .int))) (by decide) rfl rfl d2_33 36 rfl ?_
  intro T9 h9 X9 e9 W9
  have AR := AR.other W9 NB_r0
  have E_r0 := E_r0.wr W9
  have K := K.wr W9 (Or.inl (List.mem_of_getElem? (i := 0) rfl))
  have Zs := Nat.le_trans Zs (Keep.of_wr W9).1
  have B_r0 : FL Z h9 r0 [(.ref b2), (.ref b4), (.ref b6), (.ref b8), .null, (.int 0), (.int 0), .null, .null, .null, .null, (.int 0), .null, .null, .null, .null, .null, .null, .null, .null, .null, .null, (.int 0), (.long 0), (.int 0), (.int 0), (.int 0), (.int 0)] := B_r0.put LA (i0 := 3) rfl W9
  have N9 := Fr.snoc X9 N7 g_r0
  refine Gol.aloadN X9 hx hby d2_36 37 rfl rfl rfl ?_
  refine Gol.iconst X9 hx hby d2_37 38 rfl (z := (0 : Int32)) rfl ?_
  refine Gol.newrefA X9 hx hby hZ hown (ty := .double) (by first | rfl | decide | decide +kernel) (w 30 _ rfl) (w 31 _ rfl) e9 0 d2_38 41 rfl (by decide) (by decide) (by decide) (by decide) (by decide) ?_
  intro T10 h10 k10 b10 g10 X10 e10 E10 A10 _
  have lo_b10 : b8 < b10 := Nat.lt_of_lt_of_le (AR _ (List.mem_of_getElem? (i := 0) rfl)).lt (Nat.le_of_eq g10.symm)
  have ne_r0_b10 : r0 ≠ b10 := Nat.ne_of_lt (Nat.lt_of_lt_of_le E_r0.lt (Nat.le_of_eq g10.symm))
  have E_r0 := E_r0.ext E10
  have B_r0 := B_r0.ext E10
  have K := K.ext E10
  have Zs := Nat.le_trans Zs E10.1
  have AR := AR.ext E10
  have V_b10 : Arv Z h10 b10 k10 (.array .double) (0 : Int32) [] .null := A10
  have AR := AR.cons V_b10
  have NB_r0 := own_nr (k := k10) (ty := (.array .double)) (z := (0 : Int32)) (vs := []) (d := .null) NB_r0 ne_r0_b10
  refine Gol.putF X10 hx hby hZ hown (host := "") (Or.inl (w 32 _ rfl)) Via.refl e10 (B_r0 4 _ _ _ rfl rfl) E_r0 (Or.inl (w 33 _ rfl)) (w 9 _ rfl) (ty := (.array (.array .double))) (by decide) rfl rfl d2_41 44 rfl ?_
  intro T11 h11 X11 e11 W11
  have AR := AR.other W11 NB_r0
  have E_r0 := E_r0.wr W11
  have K := K.wr W11 (Or.inl (List.mem_of_getElem? (i := 0) rfl))
  have Zs := Nat.le_trans Zs (Keep.of_wr W11).1
  have B_r0 : FL Z h11 r0 [(.ref b2), (.ref b4), (.ref b6), (.ref b8), (.ref b10), (.int 0), (.int 0), .null, .null, .null, .null, (.int 0), .null, .null, .null, .null, .null, .null, .null, .null, .null, .null, (.int 0), (.long 0), (.int 0), (.int 0), (.int 0), (.int 0)] := B_r0.put LA (i0 := 4) rfl W11
  have N11 := Fr.snoc X11 N9 g_r0
  refine Gol.aloadN X11 hx hby d2_44 45 rfl rfl rfl ?_
  refine Gol.iload X11 hx hby d2_45 47 rfl rfl ?_
  refine Gol.putF X11 hx hby hZ hown (host := "") (Or.inl (w 34 _ rfl)) Via.refl e11 (B_r0 5 _ _ _ rfl rfl) E_r0 (Or.inr ⟨(w 35 _ rfl), rfl, hnm⟩) (w 9 _ rfl) (ty := .int) (by decide) rfl rfl d2_47 50 rfl ?_
  intro T12 h12 X12 e12 W12
  have AR := AR.other W12 NB_r0
  have E_r0 := E_r0.wr W12
  have K := K.wr W12 (Or.inl (List.mem_of_getElem? (i := 0) rfl))
  have Zs := Nat.le_trans Zs (Keep.of_wr W12).1
  have B_r0 : FL Z h12 r0 [(.ref b2), (.ref b4), (.ref b6), (.ref b8), (.ref b10), (.int p6), (.int 0), .null, .null, .null, .null, (.int 0), .null, .null, .null, .null, .null, .null, .null, .null, .null, .null, (.int 0), (.long 0), (.int 0), (.int 0), (.int 0), (.int 0)] := B_r0.put LA (i0 := 5) rfl W12
  have N12 := Fr.snoc X12 N11 g_r0
  refine Gol.aloadN X12 hx hby d2_50 51 rfl rfl rfl ?_
  refine Gol.aloadN X12 hx hby d2_51 52 rfl rfl rfl ?_
  refine Gol.alen X12 hx hby hZ e12 (V_r1.keep K nn_r1) d2_52 53 rfl ?_
  refine Gol.putF X12 hx hby hZ hown (host := "") (Or.inl (w 36 _ rfl)) Via.refl e12 (B_r0 6 _ _ _ rfl rfl) E_r0 (Or.inr ⟨(w 37 _ rfl), rfl, hnm⟩) (w 9 _ rfl) (ty := .int) (by decide) rfl rfl d2_53 56 rfl ?_
  intro T13 h13 X13 e13 W13
  have AR := AR.other W13 NB_r0
  have E_r0 := E_r0.wr W13
  have K := K.wr W13 (Or.inl (List.mem_of_getElem? (i := 0) rfl))
  have Zs := Nat.le_trans Zs (Keep.of_wr W13).1
  have B_r0 : FL Z h13 r0 [(.ref b2), (.ref b4), (.ref b6), (.ref b8), (.ref b10), (.int p6), (.int 2), .null, .null, .null, .null, (.int 0), .null, .null, .null, .null, .null, .null, .null, .null, .null, .null, (.int 0), (.long 0), (.int 0), (.int 0), (.int 0), (.int 0)] := B_r0.put LA (i0 := 6) rfl W13
  have N13 := Fr.snoc X13 N12 g_r0
  refine Gol.aloadN X13 hx hby d2_56 57 rfl rfl rfl ?_
  refine Gol.aloadN X13 hx hby d2_57 58 rfl rfl rfl ?_
  refine Gol.putF X13 hx hby hZ hown (host := "") (Or.inl (w 38 _ rfl)) Via.refl e13 (B_r0 7 _ _ _ rfl rfl) E_r0 (Or.inr ⟨(w 39 _ rfl), rfl, hnm⟩) (w 9 _ rfl) (ty := (.array .int)) (by decide) rfl rfl d2_58 61 rfl ?_
  intro T14 h14 X14 e14 W14
  have AR := AR.other W14 NB_r0
  have E_r0 := E_r0.wr W14
  have K := K.wr W14 (Or.inl (List.mem_of_getElem? (i := 0) rfl))
  have Zs := Nat.le_trans Zs (Keep.of_wr W14).1
  have B_r0 : FL Z h14 r0 [(.ref b2), (.ref b4), (.ref b6), (.ref b8), (.ref b10), (.int p6), (.int 2), (.ref r1), .null, .null, .null, (.int 0), .null, .null, .null, .null, .null, .null, .null, .null, .null, .null, (.int 0), (.long 0), (.int 0), (.int 0), (.int 0), (.int 0)] := B_r0.put LA (i0 := 7) rfl W14
  have N14 := Fr.snoc X14 N13 g_r0
  refine Gol.aloadN X14 hx hby d2_61 62 rfl rfl rfl ?_
  refine Gol.aloadN X14 hx hby d2_62 63 rfl rfl rfl ?_
  refine Gol.putF X14 hx hby hZ hown (host := "") (Or.inl (w 40 _ rfl)) Via.refl e14 (B_r0 8 _ _ _ rfl rfl) E_r0 (Or.inr ⟨(w 41 _ rfl), rfl, hnm⟩) (w 9 _ rfl) (ty := (.array .int)) (by decide) rfl rfl d2_63 66 rfl ?_
  intro T15 h15 X15 e15 W15
  have AR := AR.other W15 NB_r0
  have E_r0 := E_r0.wr W15
  have K := K.wr W15 (Or.inl (List.mem_of_getElem? (i := 0) rfl))
  have Zs := Nat.le_trans Zs (Keep.of_wr W15).1
  have B_r0 : FL Z h15 r0 [(.ref b2), (.ref b4), (.ref b6), (.ref b8), (.ref b10), (.int p6), (.int 2), (.ref r1), (.ref r3), .null, .null, (.int 0), .null, .null, .null, .null, .null, .null, .null, .null, .null, .null, (.int 0), (.long 0), (.int 0), (.int 0), (.int 0), (.int 0)] := B_r0.put LA (i0 := 8) rfl W15
  have N15 := Fr.snoc X15 N14 g_r0
  refine Gol.aloadN X15 hx hby d2_66 67 rfl rfl rfl ?_
  refine Gol.aload X15 hx hby d2_67 69 rfl rfl rfl ?_
  refine Gol.putF X15 hx hby hZ hown (host := "") (Or.inl (w 42 _ rfl)) Via.refl e15 (B_r0 9 _ _ _ rfl rfl) E_r0 (Or.inr ⟨(w 43 _ rfl), rfl, hnm⟩) (w 9 _ rfl) (ty := (.array .int)) (by decide) rfl rfl d2_69 72 rfl ?_
  intro T16 h16 X16 e16 W16
  have AR := AR.other W16 NB_r0
  have E_r0 := E_r0.wr W16
  have K := K.wr W16 (Or.inl (List.mem_of_getElem? (i := 0) rfl))
  have Zs := Nat.le_trans Zs (Keep.of_wr W16).1
  have B_r0 : FL Z h16 r0 [(.ref b2), (.ref b4), (.ref b6), (.ref b8), (.ref b10), (.int p6), (.int 2), (.ref r1), (.ref r3), (.ref r4), .null, (.int 0), .null, .null, .null, .null, .null, .null, .null, .null, .null, .null, (.int 0), (.long 0), (.int 0), (.int 0), (.int 0), (.int 0)] := B_r0.put LA (i0 := 9) rfl W16
  have N16 := Fr.snoc X16 N15 g_r0
  refine Gol.aloadN X16 hx hby d2_72 73 rfl rfl rfl ?_
  refine Gol.aload X16 hx hby d2_73 75 rfl rfl rfl ?_
  refine Gol.putF X16 hx hby hZ hown (host := "") (Or.inl (w 44 _ rfl)) Via.refl e16 (B_r0 10 _ _ _ rfl rfl) E_r0 (Or.inr ⟨(w 45 _ rfl), rfl, hnm⟩) (w 9 _ rfl) (ty := (.array .int)) (by decide) rfl rfl d2_75 78 rfl ?_
  intro T17 h17 X17 e17 W17
  have AR := AR.other W17 NB_r0
  have E_r0 := E_r0.wr W17
  have K := K.wr W17 (Or.inl (List.mem_of_getElem? (i := 0) rfl))
  have Zs := Nat.le_trans Zs (Keep.of_wr W17).1
  have B_r0 : FL Z h17 r0 [(.ref b2), (.ref b4), (.ref b6), (.ref b8), (.ref b10), (.int p6), (.int 2), (.ref r1), (.ref r3), (.ref r4), (.ref r5), (.int 0), .null, .null, .null, .null, .null, .null, .null, .null, .null, .null, (.int 0), (.long 0), (.int 0), (.int 0), (.int 0), (.int 0)] := B_r0.put LA (i0 := 10) rfl W17
  have N17 := Fr.snoc X17 N16 g_r0
  refine Gol.aloadN X17 hx hby d2_78 79 rfl rfl rfl ?_
  refine Gol.aloadN X17 hx hby d2_79 80 rfl rfl rfl ?_
  refine Gol.alen X17 hx hby hZ e17 (V_r3.keep K nn_r3) d2_80 81 rfl ?_
  refine Gol.putF X17 hx hby hZ hown (host := "") (Or.inl (w 46 _ rfl)) Via.refl e17 (B_r0 11 _ _ _ rfl rfl) E_r0 (Or.inr ⟨(w 47 _ rfl), rfl, hnm⟩) (w 9 _ rfl) (ty := .int) (by decide) rfl rfl d2_81 84 rfl ?_
  intro T18 h18 X18 e18 W18
  have AR := AR.other W18 NB_r0
  have E_r0 := E_r0.wr W18
  have K := K.wr W18 (Or.inl (List.mem_of_getElem? (i := 0) rfl))
  have Zs := Nat.le_trans Zs (Keep.of_wr W18).1
  have B_r0 : FL Z h18 r0 [(.ref b2), (.ref b4), (.ref b6), (.ref b8), (.ref b10), (.int p6), (.int 2), (.ref r1), (.ref r3), (.ref r4), (.ref r5), (.int 2), .null, .null, .null, .null, .null, .null, .null, .null, .null, .null, (.int 0), (.long 0), (.int 0), (.int 0), (.int 0), (.int 0)] := B_r0.put LA (i0 := 11) rfl W18
  have N18 := Fr.snoc X18 N17 g_r0
  refine Gol.aloadN X18 hx hby d2_84 85 rfl rfl rfl ?_
  refine Gol.fB X18 hx hby hZ hown (w 46 _ rfl) e18 B_r0 11 d2_85 d2_86 89 rfl rfl rfl rfl ?_
  intro T19 X19 e19
  refine Gol.iconst X19 hx hby d2_89 90 rfl (z := (1 : Int32)) rfl ?_
  refine Gol.iadd X19 hx hby d2_90 91 rfl (z := (3 : Int32)) rfl ?_
  refine Gol.newarr X19 hx hby hZ (w 5 _ rfl) e19 3 d2_91 93 rfl (by decide) (by decide) (by decide) (by decide) (by decide) ?_
  intro T20 h20 k20 b20 g20 X20 e20 E20 A20
  have lo_b20 : b10 < b20 := Nat.lt_of_lt_of_le (AR _ (List.mem_of_getElem? (i := 0) rfl)).lt (Nat.le_of_eq g20.symm)
  have ne_r0_b20 : r0 ≠ b20 := Nat.ne_of_lt (Nat.lt_of_lt_of_le E_r0.lt (Nat.le_of_eq g20.symm))
  have g_b20 : n0 ≤ b20 := Nat.le_trans Zs (Nat.le_of_eq g20.symm)
  have sz_b20 : h0.size ≤ b20 := Nat.le_trans K.1 (Nat.le_of_eq g20.symm)
  have NB_b20 := AR.nb g20
  have E_r0 := E_r0.ext E20
  have B_r0 := B_r0.ext E20
  have K := K.ext E20
  have Zs := Nat.le_trans Zs E20.1
  have AR := AR.ext E20
  have V_b20 : Arv Z h20 b20 k20 .int (3 : Int32) [(.int 0), (.int 0), (.int 0)] (.int 0) := A20.pad (pad_rep [] (.int 0) 3)
  refine Gol.putF X20 hx hby hZ hown (host := "") (Or.inl (w 48 _ rfl)) Via.refl e20 (B_r0 12 _ _ _ rfl rfl) E_r0 (Or.inr ⟨(w 49 _ rfl), rfl, hnm⟩) (w 9 _ rfl) (ty := (.array .int)) (by decide) rfl rfl d2_93 96 rfl ?_
  intro T21 h21 X21 e21 W21
  have AR := AR.other W21 NB_r0
  have E_r0 := E_r0.wr W21
  have V_b20 := V_b20.other W21 ne_r0_b20.symm
  have K := K.wr W21 (Or.inl (List.mem_of_getElem? (i := 0) rfl))
  have Zs := Nat.le_trans Zs (Keep.of_wr W21).1
  have B_r0 : FL Z h21 r0 [(.ref b2), (.ref b4), (.ref b6), (.ref b8), (.ref b10), (.int p6), (.int 2), (.ref r1), (.ref r3), (.ref r4), (.ref r5), (.int 2), (.ref b20), .null, .null, .null, .null, .null, .null, .null, .null, .null, (.int 0), (.long 0), (.int 0), (.int 0), (.int 0), (.int 0)] := B_r0.put LA (i0 := 12) rfl W21
  have N21 := Fr.snoc X21 N18 g_r0
  refine Gol.iconst X21 hx hby d2_96 97 rfl (z := (0 : Int32)) rfl ?_
  refine Gol.istore X21 hx hby d2_97 99 rfl (l' := #[vr r0, vr r1, vr r2, vr r3, vr r4, vr r5, vi p6, vi 0, uu, uu, uu]) rfl ?_
  refine Gol.iload X21 hx hby d2_99 101 rfl rfl ?_
  refine Gol.fB X21 hx hby hZ hown (w 46 _ rfl) e21 B_r0 11 d2_101 d2_102 105 rfl rfl rfl rfl ?_
  intro T22 X22 e22
  refine Gol.icmpNo X22 hx hby d2_105 108 rfl (tlt (by decide : (0 : Int32) < (2 : Int32))).2.1 ?_
  refine Gol.fB X22 hx hby hZ hown (w 48 _ rfl) e22 B_r0 12 d2_108 d2_109 112 rfl rfl rfl rfl ?_
  intro T23 X23 e23
  refine Gol.iload X23 hx hby d2_112 114 rfl rfl ?_
  refine Gol.iconst X23 hx hby d2_114 115 rfl (z := (1 : Int32)) rfl ?_
  refine Gol.iadd X23 hx hby d2_115 116 rfl (z := (1 : Int32)) rfl ?_
  refine Gol.fB X23 hx hby hZ hown (w 48 _ rfl) e23 B_r0 12 d2_116 d2_117 120 rfl rfl rfl rfl ?_
  intro T24 X24 e24
  refine Gol.iload X24 hx hby d2_120 122 rfl rfl ?_
  refine Gol.iaload X24 hx hby hZ e24 V_b20 d2_122 123 rfl ⟨by decide, by decide⟩ (v := (0 : Int32)) rfl ?_
  refine Gol.aloadN X24 hx hby d2_123 124 rfl rfl rfl ?_
  refine Gol.iload X24 hx hby d2_124 126 rfl rfl ?_
  refine Gol.laload X24 hx hby hZ e24 (V_r2.keep K nn_r2) d2_126 127 rfl ⟨by decide, by decide⟩ (v := q0) rfl ?_
  refine Gol.callS X24 hx hby hZ hown 3 [(.long q0)] (w 50 _ rfl) (w 51 _ rfl) (w 52 _ rfl) (w 53 _ rfl) (by decide) (rm4 l Z a0 hw [] q0  h21 n0 Zs hb0) (by decide) (by decide) e24 (by rw [hml]; rfl) (rest := [(.int 0), (.int 1), (.ref b20)]) (Nat.le_of_eq rfl) (by decide) (by decide) (lenOf pd_7 rfl) rfl d2_127 130 rfl ?_
  intro T25 v25 L25 X25 hQ25
  obtain ⟨rfl, Nq25, eq25⟩ := hQ25
  have N25 := Fr.app N21 Nq25
  show GolF _ _ _ _ _ _ _ T25 m 130 #[vr r0, vr r1, vr r2, vr r3, vr r4, vr r5, vi p6, vi 0, uu, uu, uu] [(.int 1), (.int 0), (.int 1), (.ref b20)]
  refine Gol.iadd X25 hx hby d2_130 131 rfl (z := (1 : Int32)) rfl ?_
  refine Gol.iastore X25 hx hby hZ eq25 V_b20 d2_131 132 rfl ⟨by decide, by decide⟩ 1 rfl (Nat.le_of_ble_eq_true rfl) ?_
  intro T26 h26 X26 e26 W26 A26
  have V_b20 : Arv Z h26 b20 k20 .int (3 : Int32) [(.int 0), (.int 1), (.int 0)] (.int 0) := A26
  have AR := AR.other W26 NB_b20
  have E_r0 := E_r0.wr W26
  have B_r0 := B_r0.other W26 ne_r0_b20
  have K := K.wr W26 (Or.inr sz_b20)
  have Zs := Nat.le_trans Zs (Keep.of_wr W26).1
  have N26 := Fr.snoc X26 N25 g_b20
  refine Gol.iinc X26 hx hby d2_132 135 rfl rfl (l' := #[vr r0, vr r1, vr r2, vr r3, vr r4, vr r5, vi p6, vi 1, uu, uu, uu]) rfl ?_
  refine Gol.goto X26 hx hby d2_135 99 (by decide) ?_
  refine Gol.iload X26 hx hby d2_99 101 rfl rfl ?_
  refine Gol.fB X26 hx hby hZ hown (w 46 _ rfl) e26 B_r0 11 d2_101 d2_102 105 rfl rfl rfl rfl ?_
  intro T27 X27 e27
  refine Gol.icmpNo X27 hx hby d2_105 108 rfl (tlt (by decide : (1 : Int32) < (2 : Int32))).2.1 ?_
  refine Gol.fB X27 hx hby hZ hown (w 48 _ rfl) e27 B_r0 12 d2_108 d2_109 112 rfl rfl rfl rfl ?_
  intro T28 X28 e28
  refine Gol.iload X28 hx hby d2_112 114 rfl rfl ?_
  refine Gol.iconst X28 hx hby d2_114 115 rfl (z := (1 : Int32)) rfl ?_
  refine Gol.iadd X28 hx hby d2_115 116 rfl (z := (2 : Int32)) rfl ?_
  refine Gol.fB X28 hx hby hZ hown (w 48 _ rfl) e28 B_r0 12 d2_116 d2_117 120 rfl rfl rfl rfl ?_
  intro T29 X29 e29
  refine Gol.iload X29 hx hby d2_120 122 rfl rfl ?_
  refine Gol.iaload X29 hx hby hZ e29 V_b20 d2_122 123 rfl ⟨by decide, by decide⟩ (v := (1 : Int32)) rfl ?_
  refine Gol.aloadN X29 hx hby d2_123 124 rfl rfl rfl ?_
  refine Gol.iload X29 hx hby d2_124 126 rfl rfl ?_
  refine Gol.laload X29 hx hby hZ e29 (V_r2.keep K nn_r2) d2_126 127 rfl ⟨by decide, by decide⟩ (v := q1) rfl ?_
  refine Gol.callS X29 hx hby hZ hown 3 [(.long q1)] (w 50 _ rfl) (w 51 _ rfl) (w 52 _ rfl) (w 53 _ rfl) (by decide) (rm4 l Z a0 hw [] q1  h26 n0 Zs hb1) (by decide) (by decide) e29 (by rw [hml]; rfl) (rest := [(.int 1), (.int 2), (.ref b20)]) (Nat.le_of_eq rfl) (by decide) (by decide) (lenOf pd_7 rfl) rfl d2_127 130 rfl ?_
  intro T30 v30 L30 X30 hQ30
  obtain ⟨rfl, Nq30, eq30⟩ := hQ30
  have N30 := Fr.app N26 Nq30
  show GolF _ _ _ _ _ _ _ T30 m 130 #[vr r0, vr r1, vr r2, vr r3, vr r4, vr r5, vi p6, vi 1, uu, uu, uu] [(.int 1), (.int 1), (.int 2), (.ref b20)]
  refine Gol.iadd X30 hx hby d2_130 131 rfl (z := (2 : Int32)) rfl ?_
  refine Gol.iastore X30 hx hby hZ eq30 V_b20 d2_131 132 rfl ⟨by decide, by decide⟩ 2 rfl (Nat.le_of_ble_eq_true rfl) ?_
  intro T31 h31 X31 e31 W31 A31
  have V_b20 : Arv Z h31 b20 k20 .int (3 : Int32) [(.int 0), (.int 1), (.int 2)] (.int 0) := A31
  have AR := AR.other W31 NB_b20
  have E_r0 := E_r0.wr W31
  have B_r0 := B_r0.other W31 ne_r0_b20
  have K := K.wr W31 (Or.inr sz_b20)
  have Zs := Nat.le_trans Zs (Keep.of_wr W31).1
  have N31 := Fr.snoc X31 N30 g_b20
  refine Gol.iinc X31 hx hby d2_132 135 rfl rfl (l' := #[vr r0, vr r1, vr r2, vr r3, vr r4, vr r5, vi p6, vi 2, uu, uu, uu]) rfl ?_
  refine Gol.goto X31 hx hby d2_135 99 (by decide) ?_
  refine Gol.iload X31 hx hby d2_99 101 rfl rfl ?_
  refine Gol.fB X31 hx hby hZ hown (w 46 _ rfl) e31 B_r0 11 d2_101 d2_102 105 rfl rfl rfl rfl ?_
  intro T32 X32 e32
  refine Gol.icmpYes X32 hx hby d2_105 138 (by decide) (flt (by decide : ¬ ((2 : Int32) < (2 : Int32)))).2.1 ?_
  refine Gol.aloadN X32 hx hby d2_138 139 rfl rfl rfl ?_
  refine Gol.fB X32 hx hby hZ hown (w 48 _ rfl) e32 B_r0 12 d2_139 d2_140 143 rfl rfl rfl rfl ?_
  intro T33 X33 e33
  refine Gol.fB X33 hx hby hZ hown (w 46 _ rfl) e33 B_r0 11 d2_143 d2_144 147 rfl rfl rfl rfl ?_
  intro T34 X34 e34
  refine Gol.iaload X34 hx hby hZ e34 V_b20 d2_147 148 rfl ⟨by decide, by decide⟩ (v := (2 : Int32)) rfl ?_
  refine Gol.newarr X34 hx hby hZ (w 5 _ rfl) e34 2 d2_148 150 rfl (by decide) (by decide) (by decide) (by decide) (by decide) ?_
  intro T35 h35 k35 b35 g35 X35 e35 E35 A35
  have lo_b35 : b20 < b35 := Nat.lt_of_lt_of_le V_b20.lt (Nat.le_of_eq g35.symm)
  have ne_r0_b35 : r0 ≠ b35 := Nat.ne_of_lt (Nat.lt_of_lt_of_le E_r0.lt (Nat.le_of_eq g35.symm))
  have ne_b20_b35 : b20 ≠ b35 := Nat.ne_of_lt (Nat.lt_of_lt_of_le V_b20.lt (Nat.le_of_eq g35.symm))
  have g_b35 : n0 ≤ b35 := Nat.le_trans Zs (Nat.le_of_eq g35.symm)
  have sz_b35 : h0.size ≤ b35 := Nat.le_trans K.1 (Nat.le_of_eq g35.symm)
  have NB_b35 := AR.nb g35
  have E_r0 := E_r0.ext E35
  have B_r0 := B_r0.ext E35
  have V_b20 := V_b20.ext E35
  have K := K.ext E35
  have Zs := Nat.le_trans Zs E35.1
  have AR := AR.ext E35
  have V_b35 : Arv Z h35 b35 k35 .int (2 : Int32) [(.int 0), (.int 0)] (.int 0) := A35.pad (pad_rep [] (.int 0) 2)
  refine Gol.putF X35 hx hby hZ hown (host := "") (Or.inl (w 57 _ rfl)) Via.refl e35 (B_r0 13 _ _ _ rfl rfl) E_r0 (Or.inr ⟨(w 58 _ rfl), rfl, hnm⟩) (w 9 _ rfl) (ty := (.array .int)) (by decide) rfl rfl d2_150 153 rfl ?_
  intro T36 h36 X36 e36 W36
  have AR := AR.other W36 NB_r0
  have E_r0 := E_r0.wr W36
  have V_b20 := V_b20.other W36 ne_r0_b20.symm
  have V_b35 := V_b35.other W36 ne_r0_b35.symm
  have K := K.wr W36 (Or.inl (List.mem_of_getElem? (i := 0) rfl))
  have Zs := Nat.le_trans Zs (Keep.of_wr W36).1
  have B_r0 : FL Z h36 r0 [(.ref b2), (.ref b4), (.ref b6), (.ref b8), (.ref b10), (.int p6), (.int 2), (.ref r1), (.ref r3), (.ref r4), (.ref r5), (.int 2), (.ref b20), (.ref b35), .null, .null, .null, .null, .null, .null, .null, .null, (.int 0), (.long 0), (.int 0), (.int 0), (.int 0), (.int 0)] := B_r0.put LA (i0 := 13) rfl W36
  have N36 := Fr.snoc X36 N31 g_r0
  refine Gol.iconst X36 hx hby d2_153 154 rfl (z := (0 : Int32)) rfl ?_
  refine Gol.istore X36 hx hby d2_154 156 rfl (l' := #[vr r0, vr r1, vr r2, vr r3, vr r4, vr r5, vi p6, vi 0, uu, uu, uu]) rfl ?_
  refine Gol.iload X36 hx hby d2_156 158 rfl rfl ?_
  refine Gol.fB X36 hx hby hZ hown (w 46 _ rfl) e36 B_r0 11 d2_158 d2_159 162 rfl rfl rfl rfl ?_
  intro T37 X37 e37
  refine Gol.icmpNo X37 hx hby d2_162 165 rfl (tlt (by decide : (0 : Int32) < (2 : Int32))).2.1 ?_
  refine Gol.fB X37 hx hby hZ hown (w 48 _ rfl) e37 B_r0 12 d2_165 d2_166 169 rfl rfl rfl rfl ?_
  intro T38 X38 e38
  refine Gol.iload X38 hx hby d2_169 171 rfl rfl ?_
  refine Gol.iaload X38 hx hby hZ e38 V_b20 d2_171 172 rfl ⟨by decide, by decide⟩ (v := (0 : Int32)) rfl ?_
  refine Gol.istore X38 hx hby d2_172 174 rfl (l' := #[vr r0, vr r1, vr r2, vr r3, vr r4, vr r5, vi p6, vi 0, vi 0, uu, uu]) rfl ?_
  refine Gol.aloadN X38 hx hby d2_174 175 rfl rfl rfl ?_
  refine Gol.iload X38 hx hby d2_175 177 rfl rfl ?_
  refine Gol.laload X38 hx hby hZ e38 (V_r2.keep K nn_r2) d2_177 178 rfl ⟨by decide, by decide⟩ (v := q0) rfl ?_
  refine Gol.lstore X38 hx hby d2_178 180 rfl (l' := #[vr r0, vr r1, vr r2, vr r3, vr r4, vr r5, vi p6, vi 0, vi 0, vj q0, ss]) rfl ?_
  refine Gol.lload X38 hx hby d2_180 182 rfl rfl ?_
  refine Gol.lconst X38 hx hby d2_182 183 rfl (z := (0 : Int64)) rfl ?_
  refine Gol.lcmp X38 hx hby d2_183 184 rfl ?_
  refine Gol.ifNo X38 hx hby d2_184 187 rfl (feqL hz0).1 ?_
  refine Gol.fB X38 hx hby hZ hown (w 57 _ rfl) e38 B_r0 13 d2_187 d2_188 191 rfl rfl rfl rfl ?_
  intro T39 X39 e39
  refine Gol.iload X39 hx hby d2_191 193 rfl rfl ?_
  refine Gol.iinc X39 hx hby d2_193 196 rfl rfl (l' := #[vr r0, vr r1, vr r2, vr r3, vr r4, vr r5, vi p6, vi 0, vi 1, vj q0, ss]) rfl ?_
  refine Gol.lload X39 hx hby d2_196 198 rfl rfl ?_
  refine Gol.callS X39 hx hby hZ hown 2 [(.long q0)] (w 59 _ rfl) (w 60 _ rfl) (w 52 _ rfl) (w 61 _ rfl) (by decide) (rm5 l Z a0 hw [] q0  h36 n0 Zs (own_o3 hb0)) (by decide) (by decide) e39 (by rw [hml]; rfl) (rest := [(.int 0), (.ref b35)]) (Nat.le_of_eq rfl) (by decide) (by decide) (lenOf pd_7 rfl) rfl d2_198 201 rfl ?_
  intro T40 v40 L40 X40 hQ40
  obtain ⟨rfl, Nq40, eq40⟩ := hQ40
  have N40 := Fr.app N36 Nq40
  show GolF _ _ _ _ _ _ _ T40 m 201 #[vr r0, vr r1, vr r2, vr r3, vr r4, vr r5, vi p6, vi 0, vi 1, vj q0, ss] [(.int (nzL q0)), (.int 0), (.ref b35)]
  rw [ht0]
  show GolF _ _ _ _ _ _ _ T40 m 201 #[vr r0, vr r1, vr r2, vr r3, vr r4, vr r5, vi p6, vi 0, vi 1, vj q0, ss] [(.int dc0), (.int 0), (.ref b35)]
  refine Gol.iastore X40 hx hby hZ eq40 V_b35 d2_201 202 rfl ⟨by decide, by decide⟩ 0 rfl (Nat.le_of_ble_eq_true rfl) ?_
  intro T41 h41 X41 e41 W41 A41
  have V_b35 : Arv Z h41 b35 k35 .int (2 : Int32) [(.int dc0), (.int 0)] (.int 0) := A41
  have AR := AR.other W41 NB_b35
  have E_r0 := E_r0.wr W41
  have B_r0 := B_r0.other W41 ne_r0_b35
  have V_b20 := V_b20.other W41 ne_b20_b35
  have K := K.wr W41 (Or.inr sz_b35)
  have Zs := Nat.le_trans Zs (Keep.of_wr W41).1
  have N41 := Fr.snoc X41 N40 g_b35
  refine Gol.lload X41 hx hby d2_202 204 rfl rfl ?_
  refine Gol.lload X41 hx hby d2_204 206 rfl rfl ?_
  refine Gol.lconst X41 hx hby d2_206 207 rfl (z := (1 : Int64)) rfl ?_
  refine Gol.lsub X41 hx hby d2_207 208 rfl rfl ?_
  refine Gol.land X41 hx hby d2_208 209 rfl rfl ?_
  refine Gol.lstore X41 hx hby d2_209 211 rfl (l' := #[vr r0, vr r1, vr r2, vr r3, vr r4, vr r5, vi p6, vi 0, vi 1, vj (q0 &&& (q0 - (1 : Int64))), ss]) rfl ?_
  refine Gol.goto X41 hx hby d2_211 180 (by decide) ?_
  refine Gol.lload X41 hx hby d2_180 182 rfl rfl ?_
  refine Gol.lconst X41 hx hby d2_182 183 rfl (z := (0 : Int64)) rfl ?_
  refine Gol.lcmp X41 hx hby d2_183 184 rfl ?_
  refine Gol.ifYes X41 hx hby d2_184 214 (by decide) (teqL hy0).1 ?_
  refine Gol.iinc X41 hx hby d2_214 217 rfl rfl (l' := #[vr r0, vr r1, vr r2, vr r3, vr r4, vr r5, vi p6, vi 1, vi 1, vj (q0 &&& (q0 - (1 : Int64))), ss]) rfl ?_
  refine Gol.goto X41 hx hby d2_217 156 (by decide) ?_
  refine Gol.iload X41 hx hby d2_156 158 rfl rfl ?_
  refine Gol.fB X41 hx hby hZ hown (w 46 _ rfl) e41 B_r0 11 d2_158 d2_159 162 rfl rfl rfl rfl ?_
  intro T42 X42 e42
  refine Gol.icmpNo X42 hx hby d2_162 165 rfl (tlt (by decide : (1 : Int32) < (2 : Int32))).2.1 ?_
  refine Gol.fB X42 hx hby hZ hown (w 48 _ rfl) e42 B_r0 12 d2_165 d2_166 169 rfl rfl rfl rfl ?_
  intro T43 X43 e43
  refine Gol.iload X43 hx hby d2_169 171 rfl rfl ?_
  refine Gol.iaload X43 hx hby hZ e43 V_b20 d2_171 172 rfl ⟨by decide, by decide⟩ (v := (1 : Int32)) rfl ?_
  refine Gol.istore X43 hx hby d2_172 174 rfl (l' := #[vr r0, vr r1, vr r2, vr r3, vr r4, vr r5, vi p6, vi 1, vi 1, vj (q0 &&& (q0 - (1 : Int64))), ss]) rfl ?_
  refine Gol.aloadN X43 hx hby d2_174 175 rfl rfl rfl ?_
  refine Gol.iload X43 hx hby d2_175 177 rfl rfl ?_
  refine Gol.laload X43 hx hby hZ e43 (V_r2.keep K nn_r2) d2_177 178 rfl ⟨by decide, by decide⟩ (v := q1) rfl ?_
  refine Gol.lstore X43 hx hby d2_178 180 rfl (l' := #[vr r0, vr r1, vr r2, vr r3, vr r4, vr r5, vi p6, vi 1, vi 1, vj q1, ss]) rfl ?_
  refine Gol.lload X43 hx hby d2_180 182 rfl rfl ?_
  refine Gol.lconst X43 hx hby d2_182 183 rfl (z := (0 : Int64)) rfl ?_
  refine Gol.lcmp X43 hx hby d2_183 184 rfl ?_
  refine Gol.ifNo X43 hx hby d2_184 187 rfl (feqL hz1).1 ?_
  refine Gol.fB X43 hx hby hZ hown (w 57 _ rfl) e43 B_r0 13 d2_187 d2_188 191 rfl rfl rfl rfl ?_
  intro T44 X44 e44
  refine Gol.iload X44 hx hby d2_191 193 rfl rfl ?_
  refine Gol.iinc X44 hx hby d2_193 196 rfl rfl (l' := #[vr r0, vr r1, vr r2, vr r3, vr r4, vr r5, vi p6, vi 1, vi 2, vj q1, ss]) rfl ?_
  refine Gol.lload X44 hx hby d2_196 198 rfl rfl ?_
  refine Gol.callS X44 hx hby hZ hown 2 [(.long q1)] (w 59 _ rfl) (w 60 _ rfl) (w 52 _ rfl) (w 61 _ rfl) (by decide) (rm5 l Z a0 hw [] q1  h41 n0 Zs (own_o3 hb1)) (by decide) (by decide) e44 (by rw [hml]; rfl) (rest := [(.int 1), (.ref b35)]) (Nat.le_of_eq rfl) (by decide) (by decide) (lenOf pd_7 rfl) rfl d2_198 201 rfl ?_
  intro T45 v45 L45 X45 hQ45
  obtain ⟨rfl, Nq45, eq45⟩ := hQ45
  have N45 := Fr.app N41 Nq45
  show GolF _ _ _ _ _ _ _ T45 m 201 #[vr r0, vr r1, vr r2, vr r3, vr r4, vr r5, vi p6, vi 1, vi 2, vj q1, ss] [(.int (nzL q1)), (.int 1), (.ref b35)]
  rw [ht1]
  show GolF _ _ _ _ _ _ _ T45 m 201 #[vr r0, vr r1, vr r2, vr r3, vr r4, vr r5, vi p6, vi 1, vi 2, vj q1, ss] [(.int dc1), (.int 1), (.ref b35)]
  refine Gol.iastore X45 hx hby hZ eq45 V_b35 d2_201 202 rfl ⟨by decide, by decide⟩ 1 rfl (Nat.le_of_ble_eq_true rfl) ?_
  intro T46 h46 X46 e46 W46 A46
  have V_b35 : Arv Z h46 b35 k35 .int (2 : Int32) [(.int dc0), (.int dc1)] (.int 0) := A46
  have AR := AR.other W46 NB_b35
  have E_r0 := E_r0.wr W46
  have B_r0 := B_r0.other W46 ne_r0_b35
  have V_b20 := V_b20.other W46 ne_b20_b35
  have K := K.wr W46 (Or.inr sz_b35)
  have Zs := Nat.le_trans Zs (Keep.of_wr W46).1
  have N46 := Fr.snoc X46 N45 g_b35
  refine Gol.lload X46 hx hby d2_202 204 rfl rfl ?_
  refine Gol.lload X46 hx hby d2_204 206 rfl rfl ?_
  refine Gol.lconst X46 hx hby d2_206 207 rfl (z := (1 : Int64)) rfl ?_
  refine Gol.lsub X46 hx hby d2_207 208 rfl rfl ?_
  refine Gol.land X46 hx hby d2_208 209 rfl rfl ?_
  refine Gol.lstore X46 hx hby d2_209 211 rfl (l' := #[vr r0, vr r1, vr r2, vr r3, vr r4, vr r5, vi p6, vi 1, vi 2, vj (q1 &&& (q1 - (1 : Int64))), ss]) rfl ?_
  refine Gol.goto X46 hx hby d2_211 180 (by decide) ?_
  refine Gol.lload X46 hx hby d2_180 182 rfl rfl ?_
  refine Gol.lconst X46 hx hby d2_182 183 rfl (z := (0 : Int64)) rfl ?_
  refine Gol.lcmp X46 hx hby d2_183 184 rfl ?_
  refine Gol.ifYes X46 hx hby d2_184 214 (by decide) (teqL hy1).1 ?_
  refine Gol.iinc X46 hx hby d2_214 217 rfl rfl (l' := #[vr r0, vr r1, vr r2, vr r3, vr r4, vr r5, vi p6, vi 2, vi 2, vj (q1 &&& (q1 - (1 : Int64))), ss]) rfl ?_
  refine Gol.goto X46 hx hby d2_217 156 (by decide) ?_
  refine Gol.iload X46 hx hby d2_156 158 rfl rfl ?_
  refine Gol.fB X46 hx hby hZ hown (w 46 _ rfl) e46 B_r0 11 d2_158 d2_159 162 rfl rfl rfl rfl ?_
  intro T47 X47 e47
  refine Gol.icmpYes X47 hx hby d2_162 220 (by decide) (flt (by decide : ¬ ((2 : Int32) < (2 : Int32)))).2.1 ?_
  refine Gol.aloadN X47 hx hby d2_220 221 rfl rfl rfl ?_
  refine Gol.fB X47 hx hby hZ hown (w 46 _ rfl) e47 B_r0 11 d2_221 d2_222 225 rfl rfl rfl rfl ?_
  intro T48 X48 e48
  refine Gol.iconst X48 hx hby d2_225 226 rfl (z := (2 : Int32)) rfl ?_
  refine Gol.fB X48 hx hby hZ hown (w 36 _ rfl) e48 B_r0 6 d2_226 d2_227 230 rfl rfl rfl rfl ?_
  intro T49 X49 e49
  refine Gol.imul X49 hx hby d2_230 231 rfl (z := (4 : Int32)) rfl ?_
  refine Gol.iadd X49 hx hby d2_231 232 rfl (z := (6 : Int32)) rfl ?_
  refine Gol.newarr X49 hx hby hZ (w 5 _ rfl) e49 6 d2_232 234 rfl (by decide) (by decide) (by decide) (by decide) (by decide) ?_
  intro T50 h50 k50 b50 g50 X50 e50 E50 A50
  have lo_b50 : b35 < b50 := Nat.lt_of_lt_of_le V_b35.lt (Nat.le_of_eq g50.symm)
  have ne_r0_b50 : r0 ≠ b50 := Nat.ne_of_lt (Nat.lt_of_lt_of_le E_r0.lt (Nat.le_of_eq g50.symm))
  have sz_b50 : h0.size ≤ b50 := Nat.le_trans K.1 (Nat.le_of_eq g50.symm)
  have E_r0 := E_r0.ext E50
  have B_r0 := B_r0.ext E50
  have V_b20 := V_b20.ext E50
  have V_b35 := V_b35.ext E50
  have K := K.ext E50
  have Zs := Nat.le_trans Zs E50.1
  have AR := AR.ext E50
  have V_b50 : Arv Z h50 b50 k50 .int (6 : Int32) [(.int 0), (.int 0), (.int 0), (.int 0), (.int 0), (.int 0)] (.int 0) := A50.pad (pad_rep [] (.int 0) 6)
  have AR := AR.cons V_b50
  have NB_r0 := own_nr (k := k50) (ty := .int) (z := (6 : Int32)) (vs := [(.int 0), (.int 0), (.int 0), (.int 0), (.int 0), (.int 0)]) (d := (.int 0)) NB_r0 ne_r0_b50
  refine Gol.putF X50 hx hby hZ hown (host := "") (Or.inl (w 67 _ rfl)) Via.refl e50 (B_r0 14 _ _ _ rfl rfl) E_r0 (Or.inr ⟨(w 68 _ rfl), rfl, hnm⟩) (w 9 _ rfl) (ty := (.array .int)) (by decide) rfl rfl d2_234 237 rfl ?_
  intro T51 h51 X51 e51 W51
  have AR := AR.other W51 NB_r0
  have E_r0 := E_r0.wr W51
  have V_b20 := V_b20.other W51 ne_r0_b20.symm
  have V_b35 := V_b35.other W51 ne_r0_b35.symm
  have K := K.wr W51 (Or.inl (List.mem_of_getElem? (i := 0) rfl))
  have Zs := Nat.le_trans Zs (Keep.of_wr W51).1
  have B_r0 : FL Z h51 r0 [(.ref b2), (.ref b4), (.ref b6), (.ref b8), (.ref b10), (.int p6), (.int 2), (.ref r1), (.ref r3), (.ref r4), (.ref r5), (.int 2), (.ref b20), (.ref b35), (.ref b50), .null, .null, .null, .null, .null, .null, .null, (.int 0), (.long 0), (.int 0), (.int 0), (.int 0), (.int 0)] := B_r0.put LA (i0 := 14) rfl W51
  have N51 := Fr.snoc X51 N46 g_r0
  refine Gol.aloadN X51 hx hby d2_237 238 rfl rfl rfl ?_
  refine Gol.fB X51 hx hby hZ hown (w 36 _ rfl) e51 B_r0 6 d2_238 d2_239 242 rfl rfl rfl rfl ?_
  intro T52 X52 e52
  refine Gol.newarr X52 hx hby hZ (w 5 _ rfl) e52 2 d2_242 244 rfl (by decide) (by decide) (by decide) (by decide) (by decide) ?_
  intro T53 h53 k53 b53 g53 X53 e53 E53 A53
  have lo_b53 : b50 < b53 := Nat.lt_of_lt_of_le (AR _ (List.mem_of_getElem? (i := 0) rfl)).lt (Nat.le_of_eq g53.symm)
  have ne_r0_b53 : r0 ≠ b53 := Nat.ne_of_lt (Nat.lt_of_lt_of_le E_r0.lt (Nat.le_of_eq g53.symm))
  have sz_b53 : h0.size ≤ b53 := Nat.le_trans K.1 (Nat.le_of_eq g53.symm)
  have E_r0 := E_r0.ext E53
  have B_r0 := B_r0.ext E53
  have V_b20 := V_b20.ext E53
  have V_b35 := V_b35.ext E53
  have K := K.ext E53
  have Zs := Nat.le_trans Zs E53.1
  have AR := AR.ext E53
  have V_b53 : Arv Z h53 b53 k53 .int (2 : Int32) [(.int 0), (.int 0)] (.int 0) := A53.pad (pad_rep [] (.int 0) 2)
  have AR := AR.cons V_b53
  have NB_r0 := own_nr (k := k53) (ty := .int) (z := (2 : Int32)) (vs := [(.int 0), (.int 0)]) (d := (.int 0)) NB_r0 ne_r0_b53
  refine Gol.putF X53 hx hby hZ hown (host := "") (Or.inl (w 69 _ rfl)) Via.refl e53 (B_r0 15 _ _ _ rfl rfl) E_r0 (Or.inr ⟨(w 70 _ rfl), rfl, hnm⟩) (w 9 _ rfl) (ty := (.array .int)) (by decide) rfl rfl d2_244 247 rfl ?_
  intro T54 h54 X54 e54 W54
  have AR := AR.other W54 NB_r0
  have E_r0 := E_r0.wr W54
  have V_b20 := V_b20.other W54 ne_r0_b20.symm
  have V_b35 := V_b35.other W54 ne_r0_b35.symm
  have K := K.wr W54 (Or.inl (List.mem_of_getElem? (i := 0) rfl))
  have Zs := Nat.le_trans Zs (Keep.of_wr W54).1
  have B_r0 : FL Z h54 r0 [(.ref b2), (.ref b4), (.ref b6), (.ref b8), (.ref b10), (.int p6), (.int 2), (.ref r1), (.ref r3), (.ref r4), (.ref r5), (.int 2), (.ref b20), (.ref b35), (.ref b50), (.ref b53), .null, .null, .null, .null, .null, .null, (.int 0), (.long 0), (.int 0), (.int 0), (.int 0), (.int 0)] := B_r0.put LA (i0 := 15) rfl W54
  have N54 := Fr.snoc X54 N51 g_r0
  refine Gol.aloadN X54 hx hby d2_247 248 rfl rfl rfl ?_
  refine Gol.fB X54 hx hby hZ hown (w 36 _ rfl) e54 B_r0 6 d2_248 d2_249 252 rfl rfl rfl rfl ?_
  intro T55 X55 e55
  refine Gol.newarr X55 hx hby hZ (w 19 _ rfl) e55 2 d2_252 254 rfl (by decide) (by decide) (by decide) (by decide) (by decide) ?_
  intro T56 h56 k56 b56 g56 X56 e56 E56 A56
  have lo_b56 : b53 < b56 := Nat.lt_of_lt_of_le (AR _ (List.mem_of_getElem? (i := 0) rfl)).lt (Nat.le_of_eq g56.symm)
  have ne_r0_b56 : r0 ≠ b56 := Nat.ne_of_lt (Nat.lt_of_lt_of_le E_r0.lt (Nat.le_of_eq g56.symm))
  have sz_b56 : h0.size ≤ b56 := Nat.le_trans K.1 (Nat.le_of_eq g56.symm)
  have E_r0 := E_r0.ext E56
  have B_r0 := B_r0.ext E56
  have V_b20 := V_b20.ext E56
  have V_b35 := V_b35.ext E56
  have K := K.ext E56
  have Zs := Nat.le_trans Zs E56.1
  have AR := AR.ext E56
  have V_b56 : Arv Z h56 b56 k56 .double (2 : Int32) [(.double 0), (.double 0)] (.double 0) := A56.pad (pad_rep [] (.double 0) 2)
  have AR := AR.cons V_b56
  have NB_r0 := own_nr (k := k56) (ty := .double) (z := (2 : Int32)) (vs := [(.double 0), (.double 0)]) (d := (.double 0)) NB_r0 ne_r0_b56
  refine Gol.putF X56 hx hby hZ hown (host := "") (Or.inl (w 71 _ rfl)) Via.refl e56 (B_r0 16 _ _ _ rfl rfl) E_r0 (Or.inr ⟨(w 72 _ rfl), rfl, hnm⟩) (w 9 _ rfl) (ty := (.array .double)) (by decide) rfl rfl d2_254 257 rfl ?_
  intro T57 h57 X57 e57 W57
  have AR := AR.other W57 NB_r0
  have E_r0 := E_r0.wr W57
  have V_b20 := V_b20.other W57 ne_r0_b20.symm
  have V_b35 := V_b35.other W57 ne_r0_b35.symm
  have K := K.wr W57 (Or.inl (List.mem_of_getElem? (i := 0) rfl))
  have Zs := Nat.le_trans Zs (Keep.of_wr W57).1
  have B_r0 : FL Z h57 r0 [(.ref b2), (.ref b4), (.ref b6), (.ref b8), (.ref b10), (.int p6), (.int 2), (.ref r1), (.ref r3), (.ref r4), (.ref r5), (.int 2), (.ref b20), (.ref b35), (.ref b50), (.ref b53), (.ref b56), .null, .null, .null, .null, .null, (.int 0), (.long 0), (.int 0), (.int 0), (.int 0), (.int 0)] := B_r0.put LA (i0 := 16) rfl W57
  have N57 := Fr.snoc X57 N54 g_r0
  refine Gol.aloadN X57 hx hby d2_257 258 rfl rfl rfl ?_
  refine Gol.fB X57 hx hby hZ hown (w 36 _ rfl) e57 B_r0 6 d2_258 d2_259 262 rfl rfl rfl rfl ?_
  intro T58 X58 e58
  refine Gol.fB X58 hx hby hZ hown (w 36 _ rfl) e58 B_r0 6 d2_262 d2_263 266 rfl rfl rfl rfl ?_
  intro T59 X59 e59
  refine Gol.grid2 X59 hx hby hZ hown (C := "[D") (ty := .double) (by first | rfl | decide | decide +kernel) (by first | rfl | decide | decide +kernel) (w 22 _ rfl) (w 31 _ rfl) (w 19 _ rfl) e59 d2_266 270 rfl (by decide) (by decide) (by decide) (by decide) ?_
  intro T60 h60 k60 kk60 b60 bx60 by60 g60 gx60 gy60 X60 e60 E60 A60 Ax60 Ay60
  have lo_b60 : b56 < b60 := Nat.lt_of_lt_of_le (AR _ (List.mem_of_getElem? (i := 0) rfl)).lt (Nat.le_of_eq g60.symm)
  have ne_r0_b60 : r0 ≠ b60 := Nat.ne_of_lt (Nat.lt_of_lt_of_le E_r0.lt (Nat.le_of_eq g60.symm))
  have lo_bx60 : b60 < bx60 := (own_g1 g60 gx60)
  have ne_r0_bx60 : r0 ≠ bx60 := Nat.ne_of_lt (Nat.lt_of_lt_of_le E_r0.lt (own_g3 gx60))
  have sz_bx60 : h0.size ≤ bx60 := Nat.le_trans K.1 (own_g3 gx60)
  have lo_by60 : bx60 < by60 := (own_g2 gx60 gy60)
  have ne_r0_by60 : r0 ≠ by60 := Nat.ne_of_lt (Nat.lt_of_lt_of_le E_r0.lt (own_g4 gy60))
  have sz_by60 : h0.size ≤ by60 := Nat.le_trans K.1 (own_g4 gy60)
  have E_r0 := E_r0.ext E60
  have B_r0 := B_r0.ext E60
  have V_b20 := V_b20.ext E60
  have V_b35 := V_b35.ext E60
  have K := K.ext E60
  have Zs := Nat.le_trans Zs E60.1
  have AR := AR.ext E60
  have V_b60 : Arv Z h60 b60 k60 (.array .double) (2 : Int32) [(.ref bx60), (.ref by60)] .null := A60
  have V_bx60 : Arv Z h60 bx60 kk60 .double (2 : Int32) [(.double 0), (.double 0)] (.double 0) := Ax60.pad (pad_rep [] (.double 0) 2)
  have V_by60 : Arv Z h60 by60 kk60 .double (2 : Int32) [(.double 0), (.double 0)] (.double 0) := Ay60.pad (pad_rep [] (.double 0) 2)
  have AR := AR.cons V_b60
  have NB_r0 := own_nr (k := k60) (ty := (.array .double)) (z := (2 : Int32)) (vs := [(.ref bx60), (.ref by60)]) (d := .null) NB_r0 ne_r0_b60
  have AR := AR.cons V_bx60
  have NB_r0 := own_nr (k := kk60) (ty := .double) (z := (2 : Int32)) (vs := [(.double 0), (.double 0)]) (d := (.double 0)) NB_r0 ne_r0_bx60
  have AR := AR.cons V_by60
  have NB_r0 := own_nr (k := kk60) (ty := .double) (z := (2 : Int32)) (vs := [(.double 0), (.double 0)]) (d := (.double 0)) NB_r0 ne_r0_by60
  refine Gol.putF X60 hx hby hZ hown (host := "") (Or.inl (w 73 _ rfl)) Via.refl e60 (B_r0 17 _ _ _ rfl rfl) E_r0 (Or.inr ⟨(w 74 _ rfl), rfl, hnm⟩) (w 9 _ rfl) (ty := (.array (.array .double))) (by decide) rfl rfl d2_270 273 rfl ?_
  intro T61 h61 X61 e61 W61
  have AR := AR.other W61 NB_r0
  have E_r0 := E_r0.wr W61
  have V_b20 := V_b20.other W61 ne_r0_b20.symm
  have V_b35 := V_b35.other W61 ne_r0_b35.symm
  have K := K.wr W61 (Or.inl (List.mem_of_getElem? (i := 0) rfl))
  have Zs := Nat.le_trans Zs (Keep.of_wr W61).1
  have B_r0 : FL Z h61 r0 [(.ref b2), (.ref b4), (.ref b6), (.ref b8), (.ref b10), (.int p6), (.int 2), (.ref r1), (.ref r3), (.ref r4), (.ref r5), (.int 2), (.ref b20), (.ref b35), (.ref b50), (.ref b53), (.ref b56), (.ref b60), .null, .null, .null, .null, (.int 0), (.long 0), (.int 0), (.int 0), (.int 0), (.int 0)] := B_r0.put LA (i0 := 17) rfl W61
  have N61 := Fr.snoc X61 N57 g_r0
  refine Gol.aloadN X61 hx hby d2_273 274 rfl rfl rfl ?_
  refine Gol.fB X61 hx hby hZ hown (w 36 _ rfl) e61 B_r0 6 d2_274 d2_275 278 rfl rfl rfl rfl ?_
  intro T62 X62 e62
  refine Gol.newarr X62 hx hby hZ (w 19 _ rfl) e62 2 d2_278 280 rfl (by decide) (by decide) (by decide) (by decide) (by decide) ?_
  intro T63 h63 k63 b63 g63 X63 e63 E63 A63
  have lo_b63 : by60 < b63 := Nat.lt_of_lt_of_le (AR _ (List.mem_of_getElem? (i := 0) rfl)).lt (Nat.le_of_eq g63.symm)
  have ne_r0_b63 : r0 ≠ b63 := Nat.ne_of_lt (Nat.lt_of_lt_of_le E_r0.lt (Nat.le_of_eq g63.symm))
  have E_r0 := E_r0.ext E63
  have B_r0 := B_r0.ext E63
  have V_b20 := V_b20.ext E63
  have V_b35 := V_b35.ext E63
  have K := K.ext E63
  have Zs := Nat.le_trans Zs E63.1
  have AR := AR.ext E63
  have V_b63 : Arv Z h63 b63 k63 .double (2 : Int32) [(.double 0), (.double 0)] (.double 0) := A63.pad (pad_rep [] (.double 0) 2)
  have AR := AR.cons V_b63
  have NB_r0 := own_nr (k := k63) (ty := .double) (z := (2 : Int32)) (vs := [(.double 0), (.double 0)]) (d := (.double 0)) NB_r0 ne_r0_b63
  refine Gol.putF X63 hx hby hZ hown (host := "") (Or.inl (w 75 _ rfl)) Via.refl e63 (B_r0 18 _ _ _ rfl rfl) E_r0 (Or.inr ⟨(w 76 _ rfl), rfl, hnm⟩) (w 9 _ rfl) (ty := (.array .double)) (by decide) rfl rfl d2_280 283 rfl ?_
  intro T64 h64 X64 e64 W64
  have AR := AR.other W64 NB_r0
  have E_r0 := E_r0.wr W64
  have V_b20 := V_b20.other W64 ne_r0_b20.symm
  have V_b35 := V_b35.other W64 ne_r0_b35.symm
  have K := K.wr W64 (Or.inl (List.mem_of_getElem? (i := 0) rfl))
  have Zs := Nat.le_trans Zs (Keep.of_wr W64).1
  have B_r0 : FL Z h64 r0 [(.ref b2), (.ref b4), (.ref b6), (.ref b8), (.ref b10), (.int p6), (.int 2), (.ref r1), (.ref r3), (.ref r4), (.ref r5), (.int 2), (.ref b20), (.ref b35), (.ref b50), (.ref b53), (.ref b56), (.ref b60), (.ref b63), .null, .null, .null, (.int 0), (.long 0), (.int 0), (.int 0), (.int 0), (.int 0)] := B_r0.put LA (i0 := 18) rfl W64
  have N64 := Fr.snoc X64 N61 g_r0
  refine Gol.aloadN X64 hx hby d2_283 284 rfl rfl rfl ?_
  refine Gol.fB X64 hx hby hZ hown (w 36 _ rfl) e64 B_r0 6 d2_284 d2_285 288 rfl rfl rfl rfl ?_
  intro T65 X65 e65
  refine Gol.newarr X65 hx hby hZ (w 19 _ rfl) e65 2 d2_288 290 rfl (by decide) (by decide) (by decide) (by decide) (by decide) ?_
  intro T66 h66 k66 b66 g66 X66 e66 E66 A66
  have lo_b66 : b63 < b66 := Nat.lt_of_lt_of_le (AR _ (List.mem_of_getElem? (i := 0) rfl)).lt (Nat.le_of_eq g66.symm)
  have ne_r0_b66 : r0 ≠ b66 := Nat.ne_of_lt (Nat.lt_of_lt_of_le E_r0.lt (Nat.le_of_eq g66.symm))
  have E_r0 := E_r0.ext E66
  have B_r0 := B_r0.ext E66
  have V_b20 := V_b20.ext E66
  have V_b35 := V_b35.ext E66
  have K := K.ext E66
  have Zs := Nat.le_trans Zs E66.1
  have AR := AR.ext E66
  have V_b66 : Arv Z h66 b66 k66 .double (2 : Int32) [(.double 0), (.double 0)] (.double 0) := A66.pad (pad_rep [] (.double 0) 2)
  have AR := AR.cons V_b66
  have NB_r0 := own_nr (k := k66) (ty := .double) (z := (2 : Int32)) (vs := [(.double 0), (.double 0)]) (d := (.double 0)) NB_r0 ne_r0_b66
  refine Gol.putF X66 hx hby hZ hown (host := "") (Or.inl (w 77 _ rfl)) Via.refl e66 (B_r0 19 _ _ _ rfl rfl) E_r0 (Or.inr ⟨(w 78 _ rfl), rfl, hnm⟩) (w 9 _ rfl) (ty := (.array .double)) (by decide) rfl rfl d2_290 293 rfl ?_
  intro T67 h67 X67 e67 W67
  have AR := AR.other W67 NB_r0
  have E_r0 := E_r0.wr W67
  have V_b20 := V_b20.other W67 ne_r0_b20.symm
  have V_b35 := V_b35.other W67 ne_r0_b35.symm
  have K := K.wr W67 (Or.inl (List.mem_of_getElem? (i := 0) rfl))
  have Zs := Nat.le_trans Zs (Keep.of_wr W67).1
  have B_r0 : FL Z h67 r0 [(.ref b2), (.ref b4), (.ref b6), (.ref b8), (.ref b10), (.int p6), (.int 2), (.ref r1), (.ref r3), (.ref r4), (.ref r5), (.int 2), (.ref b20), (.ref b35), (.ref b50), (.ref b53), (.ref b56), (.ref b60), (.ref b63), (.ref b66), .null, .null, (.int 0), (.long 0), (.int 0), (.int 0), (.int 0), (.int 0)] := B_r0.put LA (i0 := 19) rfl W67
  have N67 := Fr.snoc X67 N64 g_r0
  refine Gol.aloadN X67 hx hby d2_293 294 rfl rfl rfl ?_
  refine Gol.fB X67 hx hby hZ hown (w 36 _ rfl) e67 B_r0 6 d2_294 d2_295 298 rfl rfl rfl rfl ?_
  intro T68 X68 e68
  refine Gol.newarr X68 hx hby hZ (w 19 _ rfl) e68 2 d2_298 300 rfl (by decide) (by decide) (by decide) (by decide) (by decide) ?_
  intro T69 h69 k69 b69 g69 X69 e69 E69 A69
  have lo_b69 : b66 < b69 := Nat.lt_of_lt_of_le (AR _ (List.mem_of_getElem? (i := 0) rfl)).lt (Nat.le_of_eq g69.symm)
  have ne_r0_b69 : r0 ≠ b69 := Nat.ne_of_lt (Nat.lt_of_lt_of_le E_r0.lt (Nat.le_of_eq g69.symm))
  have E_r0 := E_r0.ext E69
  have B_r0 := B_r0.ext E69
  have V_b20 := V_b20.ext E69
  have V_b35 := V_b35.ext E69
  have K := K.ext E69
  have Zs := Nat.le_trans Zs E69.1
  have AR := AR.ext E69
  have V_b69 : Arv Z h69 b69 k69 .double (2 : Int32) [(.double 0), (.double 0)] (.double 0) := A69.pad (pad_rep [] (.double 0) 2)
  have AR := AR.cons V_b69
  have NB_r0 := own_nr (k := k69) (ty := .double) (z := (2 : Int32)) (vs := [(.double 0), (.double 0)]) (d := (.double 0)) NB_r0 ne_r0_b69
  refine Gol.putF X69 hx hby hZ hown (host := "") (Or.inl (w 79 _ rfl)) Via.refl e69 (B_r0 20 _ _ _ rfl rfl) E_r0 (Or.inr ⟨(w 80 _ rfl), rfl, hnm⟩) (w 9 _ rfl) (ty := (.array .double)) (by decide) rfl rfl d2_300 303 rfl ?_
  intro T70 h70 X70 e70 W70
  have AR := AR.other W70 NB_r0
  have E_r0 := E_r0.wr W70
  have V_b20 := V_b20.other W70 ne_r0_b20.symm
  have V_b35 := V_b35.other W70 ne_r0_b35.symm
  have K := K.wr W70 (Or.inl (List.mem_of_getElem? (i := 0) rfl))
  have Zs := Nat.le_trans Zs (Keep.of_wr W70).1
  have B_r0 : FL Z h70 r0 [(.ref b2), (.ref b4), (.ref b6), (.ref b8), (.ref b10), (.int p6), (.int 2), (.ref r1), (.ref r3), (.ref r4), (.ref r5), (.int 2), (.ref b20), (.ref b35), (.ref b50), (.ref b53), (.ref b56), (.ref b60), (.ref b63), (.ref b66), (.ref b69), .null, (.int 0), (.long 0), (.int 0), (.int 0), (.int 0), (.int 0)] := B_r0.put LA (i0 := 20) rfl W70
  have N70 := Fr.snoc X70 N67 g_r0
  refine Gol.aloadN X70 hx hby d2_303 304 rfl rfl rfl ?_
  refine Gol.fB X70 hx hby hZ hown (w 36 _ rfl) e70 B_r0 6 d2_304 d2_305 308 rfl rfl rfl rfl ?_
  intro T71 X71 e71
  refine Gol.newarr X71 hx hby hZ (w 19 _ rfl) e71 2 d2_308 310 rfl (by decide) (by decide) (by decide) (by decide) (by decide) ?_
  intro T72 h72 k72 b72 g72 X72 e72 E72 A72
  have lo_b72 : b69 < b72 := Nat.lt_of_lt_of_le (AR _ (List.mem_of_getElem? (i := 0) rfl)).lt (Nat.le_of_eq g72.symm)
  have ne_r0_b72 : r0 ≠ b72 := Nat.ne_of_lt (Nat.lt_of_lt_of_le E_r0.lt (Nat.le_of_eq g72.symm))
  have E_r0 := E_r0.ext E72
  have B_r0 := B_r0.ext E72
  have V_b20 := V_b20.ext E72
  have V_b35 := V_b35.ext E72
  have K := K.ext E72
  have Zs := Nat.le_trans Zs E72.1
  have AR := AR.ext E72
  have V_b72 : Arv Z h72 b72 k72 .double (2 : Int32) [(.double 0), (.double 0)] (.double 0) := A72.pad (pad_rep [] (.double 0) 2)
  have AR := AR.cons V_b72
  have NB_r0 := own_nr (k := k72) (ty := .double) (z := (2 : Int32)) (vs := [(.double 0), (.double 0)]) (d := (.double 0)) NB_r0 ne_r0_b72
  refine Gol.putF X72 hx hby hZ hown (host := "") (Or.inl (w 81 _ rfl)) Via.refl e72 (B_r0 21 _ _ _ rfl rfl) E_r0 (Or.inr ⟨(w 82 _ rfl), rfl, hnm⟩) (w 9 _ rfl) (ty := (.array .double)) (by decide) rfl rfl d2_310 313 rfl ?_
  intro T73 h73 X73 e73 W73
  have AR := AR.other W73 NB_r0
  have E_r0 := E_r0.wr W73
  have V_b20 := V_b20.other W73 ne_r0_b20.symm
  have V_b35 := V_b35.other W73 ne_r0_b35.symm
  have K := K.wr W73 (Or.inl (List.mem_of_getElem? (i := 0) rfl))
  have Zs := Nat.le_trans Zs (Keep.of_wr W73).1
  have B_r0 : FL Z h73 r0 [(.ref b2), (.ref b4), (.ref b6), (.ref b8), (.ref b10), (.int p6), (.int 2), (.ref r1), (.ref r3), (.ref r4), (.ref r5), (.int 2), (.ref b20), (.ref b35), (.ref b50), (.ref b53), (.ref b56), (.ref b60), (.ref b63), (.ref b66), (.ref b69), (.ref b72), (.int 0), (.long 0), (.int 0), (.int 0), (.int 0), (.int 0)] := B_r0.put LA (i0 := 21) rfl W73
  have N73 := Fr.snoc X73 N70 g_r0
  have hlo : Asc ([r1, r3, r4, r5, r0, b2, b4, b6, b8, b10, b20, b35, b50, b53, b56, b60, bx60, by60, b63, b66, b69, b72] ++ [h73.size]) := (own_ac ho1 (own_ac ho2 (own_ac ho3 (own_ac ho4 (own_ac lo_b2 (own_ac lo_b4 (own_ac lo_b6 (own_ac lo_b8 (own_ac lo_b10 (own_ac lo_b20 (own_ac lo_b35 (own_ac lo_b50 (own_ac lo_b53 (own_ac lo_b56 (own_ac lo_b60 (own_ac lo_bx60 (own_ac lo_by60 (own_ac lo_b63 (own_ac lo_b66 (own_ac lo_b69 (own_ac lo_b72 (own_ac ((AR _ (List.mem_of_getElem? (i := 0) rfl)).lt : b72 < h73.size) own_a1))))))))))))))))))))))
  obtain ⟨hl1, hl2⟩ := own_high hlo
  obtain ⟨A, hA⟩ : ∃ A : Nat → Addr, ∀ i, A i = [r1, r3, r4, r5, r0, b2, b4, b6, b8, b10, b20, b35, b50, b53, b56, b60, bx60, by60, b63, b66, b69, b72].getD (own_pm.getD i 0) 0 := ⟨_, fun _ => rfl⟩
  have D := own_dis hA rfl hl1
  have G : FreA A n0 := fun i q => own_low hl1 g_r1 _ (own_mem hA rfl i q)
  have S22 : ∀ i : Nat, decide (i < 22) = true → A i < h73.size := fun i q => hl2 _ (own_mem hA rfl i q)
  have aq0 : A 0 = r0 := hA 0
  have aq1 : A 1 = r1 := hA 1
  have aq2 : A 2 = r3 := hA 2
  have aq3 : A 3 = r4 := hA 3
  have aq4 : A 4 = r5 := hA 4
  have aq5 : A 5 = b20 := hA 5
  have aq6 : A 6 = b35 := hA 6
  have aq7 : A 7 = b50 := hA 7
  have aq8 : A 8 = b53 := hA 8
  have aq9 : A 9 = b56 := hA 9
  have aq10 : A 10 = b60 := hA 10
  have aq11 : A 11 = bx60 := hA 11
  have aq12 : A 12 = by60 := hA 12
  have aq13 : A 13 = b63 := hA 13
  have aq14 : A 14 = b66 := hA 14
  have aq15 : A 15 = b69 := hA 15
  have aq16 : A 16 = b72 := hA 16
  have aq17 : A 17 = b2 := hA 17
  have aq18 : A 18 = b4 := hA 18
  have aq19 : A 19 = b6 := hA 19
  have aq20 : A 20 = b8 := hA 20
  have aq21 : A 21 = b10 := hA 21
  have E_A0 : Exa Z h73 (A 0) "com/example/quorumstone/quorumstone/check/Relaxation" := by rw [aq0]; exact E_r0
  have B_A0 : FL Z h73 (A 0) (rxv A p6 (0 : Int32) (0 : Int32) (0 : Int32) (0 : Int32) (0 : Int64) (0 : Int32)) := by
    show FL Z h73 (A 0) [(.ref (A 17)), (.ref (A 18)), (.ref (A 19)), (.ref (A 20)), (.ref (A 21)), (.int p6), (.int 2), (.ref (A 1)), (.ref (A 2)), (.ref (A 3)), (.ref (A 4)), (.int 2), (.ref (A 5)), (.ref (A 6)), (.ref (A 7)), (.ref (A 8)), (.ref (A 9)), (.ref (A 10)), (.ref (A 13)), (.ref (A 14)), (.ref (A 15)), (.ref (A 16)), (.int 0), (.long 0), (.int 0), (.int 0), (.int 0), (.int 0)]
    rw [aq0, aq1, aq2, aq3, aq4, aq5, aq6, aq7, aq8, aq9, aq10, aq13, aq14, aq15, aq16, aq17, aq18, aq19, aq20, aq21]
    exact B_r0
  have K : Keep h0 h73 [(A 0)] := by rw [aq0]; exact K
  have V_A5 : Arv Z h73 (A 5) k20 .int (3 : Int32) [(.int 0), (.int 1), (.int 2)] (.int 0) := by rw [aq5]; exact V_b20
  have V_A6 : Arv Z h73 (A 6) k35 .int (2 : Int32) [(.int dc0), (.int dc1)] (.int 0) := by rw [aq6]; exact V_b35
  have V_A7 : Arv Z h73 (A 7) k50 .int (6 : Int32) [(.int 0), (.int 0), (.int 0), (.int 0), (.int 0), (.int 0)] (.int 0) := by rw [aq7]; exact (AR _ (List.mem_of_getElem? (i := 9) rfl))
  have sz_A7 : h0.size ≤ A 7 := by rw [aq7]; exact sz_b50
  have V_A8 : Arv Z h73 (A 8) k53 .int (2 : Int32) [(.int 0), (.int 0)] (.int 0) := by rw [aq8]; exact (AR _ (List.mem_of_getElem? (i := 8) rfl))
  have sz_A8 : h0.size ≤ A 8 := by rw [aq8]; exact sz_b53
  have V_A9 : Arv Z h73 (A 9) k56 .double (2 : Int32) [(.double 0), (.double 0)] (.double 0) := by rw [aq9]; exact (AR _ (List.mem_of_getElem? (i := 7) rfl))
  have sz_A9 : h0.size ≤ A 9 := by rw [aq9]; exact sz_b56
  have V_A10 : Arv Z h73 (A 10) k60 (.array .double) (2 : Int32) [(.ref (A 11)), (.ref (A 12))] .null := by rw [aq10, aq11, aq12]; exact (AR _ (List.mem_of_getElem? (i := 6) rfl))
  have V_A11 : Arv Z h73 (A 11) kk60 .double (2 : Int32) [(.double 0), (.double 0)] (.double 0) := by rw [aq11]; exact (AR _ (List.mem_of_getElem? (i := 5) rfl))
  have sz_A11 : h0.size ≤ A 11 := by rw [aq11]; exact sz_bx60
  have V_A12 : Arv Z h73 (A 12) kk60 .double (2 : Int32) [(.double 0), (.double 0)] (.double 0) := by rw [aq12]; exact (AR _ (List.mem_of_getElem? (i := 4) rfl))
  have sz_A12 : h0.size ≤ A 12 := by rw [aq12]; exact sz_by60
  have V_A13 : Arv Z h73 (A 13) k63 .double (2 : Int32) [(.double 0), (.double 0)] (.double 0) := by rw [aq13]; exact (AR _ (List.mem_of_getElem? (i := 3) rfl))
  have V_A14 : Arv Z h73 (A 14) k66 .double (2 : Int32) [(.double 0), (.double 0)] (.double 0) := by rw [aq14]; exact (AR _ (List.mem_of_getElem? (i := 2) rfl))
  have V_A15 : Arv Z h73 (A 15) k69 .double (2 : Int32) [(.double 0), (.double 0)] (.double 0) := by rw [aq15]; exact (AR _ (List.mem_of_getElem? (i := 1) rfl))
  have V_A16 : Arv Z h73 (A 16) k72 .double (2 : Int32) [(.double 0), (.double 0)] (.double 0) := by rw [aq16]; exact (AR _ (List.mem_of_getElem? (i := 0) rfl))
  have V_A17 : Arv Z h73 (A 17) k2 .int (8 : Int32) [(.int 0), (.int 0), (.int 0), (.int 0), (.int 0), (.int 0), (.int 0), (.int 0)] (.int 0) := by rw [aq17]; exact (AR _ (List.mem_of_getElem? (i := 14) rfl))
  have V_A18 : Arv Z h73 (A 18) k4 .double (8 : Int32) [(.double 0), (.double 0), (.double 0), (.double 0), (.double 0), (.double 0), (.double 0), (.double 0)] (.double 0) := by rw [aq18]; exact (AR _ (List.mem_of_getElem? (i := 13) rfl))
  rw [← aq0]
  show GolF _ _ _ _ _ _ _ T73 m 313 #[vr (A 0), vr r1, vr r2, vr r3, vr r4, vr r5, vi p6, vi 2, vi 2, vj (q1 &&& (q1 - (1 : Int64))), ss] []
  refine Gol.aloadN X73 hx hby d2_313 314 rfl rfl rfl ?_
  refine Gol.callQ X73 hx hby hZ hown (z := zM0) 0 [] (a := (A 0)) (w 83 _ rfl) (w 84 _ rfl) (w 101 _ rfl) rfl (w 85 _ rfl) (w 10 _ rfl) (w 86 _ rfl) (by decide) E_A0 (rmSlk l Z a0 hw []  A p6 (0 : Int32) (0 : Int32) (0 : Int32) (0 : Int32) (0 : Int64) (0 : Int32) (.int 0) (.int 0) (.int 0) (.int 0) (.int 0) (.int 0) (.int 0) (.int 0) (.double 0) (.double 0) (.double 0) (.double 0) (.double 0) (.double 0) h73 n0 Zs D G B_A0 E_A0 ⟨_, V_A7⟩ ⟨_, V_A8⟩ ⟨_, V_A9⟩ ⟨_, V_A10⟩ ⟨_, V_A11⟩ ⟨_, V_A12⟩ ) (by decide) (by decide) e73 (by rw [hml]; rfl) (rest := []) (Nat.le_of_eq rfl) (by decide) (by decide) (lenOf pd_4 rfl) rfl d2_314 317 rfl ?_
  intro T74 v74 L74 X74 hQ74
  obtain ⟨rfl, Nq74, Kq74, B_A0, ⟨k74_A7, V_A7⟩, ⟨k74_A8, V_A8⟩, ⟨k74_A9, V_A9⟩, ⟨k74_A11, V_A11⟩, ⟨k74_A12, V_A12⟩⟩ := hQ74
  have N74 := Fr.app N73 Nq74
  have E_A0 := E_A0.keep Kq74
  have V_A5 := V_A5.keep Kq74 (nnA D 5 [0, 7, 8, 9, 11, 12] rfl)
  have V_A6 := V_A6.keep Kq74 (nnA D 6 [0, 7, 8, 9, 11, 12] rfl)
  have V_A10 := V_A10.keep Kq74 (nnA D 10 [0, 7, 8, 9, 11, 12] rfl)
  have V_A13 := V_A13.keep Kq74 (nnA D 13 [0, 7, 8, 9, 11, 12] rfl)
  have V_A14 := V_A14.keep Kq74 (nnA D 14 [0, 7, 8, 9, 11, 12] rfl)
  have V_A15 := V_A15.keep Kq74 (nnA D 15 [0, 7, 8, 9, 11, 12] rfl)
  have V_A16 := V_A16.keep Kq74 (nnA D 16 [0, 7, 8, 9, 11, 12] rfl)
  have V_A17 := V_A17.keep Kq74 (nnA D 17 [0, 7, 8, 9, 11, 12] rfl)
  have V_A18 := V_A18.keep Kq74 (nnA D 18 [0, 7, 8, 9, 11, 12] rfl)
  have K := K.trans Kq74 (allS (Or.inl (List.mem_of_getElem? (i := 0) rfl)) (allS (Or.inr sz_A7) (allS (Or.inr sz_A8) (allS (Or.inr sz_A9) (allS (Or.inr sz_A11) (allS (Or.inr sz_A12) all0))))))
  show GolF _ _ _ _ _ _ _ T74 m 317 #[vr (A 0), vr r1, vr r2, vr r3, vr r4, vr r5, vi p6, vi 2, vi 2, vj (q1 &&& (q1 - (1 : Int64))), ss] []
  have S22 := fun (i : Nat) q => Nat.lt_of_lt_of_le (S22 i q) Kq74.1
  exact Gol.ret0 X74 hx hby Bd.returns Bd.notSynchronized d2_317 rfl ⟨rfl, N74, K, A, rfl, aq1, aq2, aq3, aq4, D, G, S22, E_A0, B_A0, ⟨_, V_A5⟩, ⟨_, V_A6⟩, ⟨_, V_A7⟩, ⟨_, V_A8⟩, ⟨_, V_A9⟩, ⟨_, V_A10⟩, ⟨_, V_A11⟩, ⟨_, V_A12⟩, ⟨_, V_A13⟩, ⟨_, V_A14⟩, ⟨_, V_A15⟩, ⟨_, V_A16⟩, ⟨_, V_A17⟩, ⟨_, V_A18⟩⟩ (by decide) (by decide)

theorem own_mask (x : Int32) : 0 ≤ (x &&& (2147483647 : Int32)).toInt := by
  have h : (x &&& 2147483647).toBitVec.toNat ≤ 2147483647 := by
    rw [Int32.toBitVec_and, BitVec.toNat_and]; exact Nat.and_le_right
  have e : (x &&& 2147483647).toInt = ((x &&& 2147483647).toBitVec.toNat : Int) := by
    show (x &&& 2147483647).toBitVec.toInt = _
    rw [BitVec.toInt_eq_toNat_of_lt (by omega)]
  omega
theorem own_b01 {P : Prop} [Decidable P] : B01 (if P then (0 : Int32) else (1 : Int32)) := by
  by_cases h : P
  · rw [if_pos h]; exact Or.inl rfl
  · rw [if_neg h]; exact Or.inr rfl
theorem own_ppi {P : Prop} [Decidable P] : (if P then (100 : Int32) else (1 : Int32)) = 1 ∨ (if P then (100 : Int32) else (1 : Int32)) = 100 := by
  by_cases h : P
  · rw [if_pos h]; exact Or.inr rfl
  · rw [if_neg h]; exact Or.inl rfl
abbrev CC (c d : Int32) : Prop := (c = 0 ∧ d = 1) ∨ (c = 1 ∧ d = 0)
theorem own_cc {c d : Int32} (h : B01 c) (e : (1 : Int32) - c = d) : CC c d := by
  subst e
  rcases h with rfl | rfl
  · exact Or.inl ⟨rfl, by decide⟩
  · exact Or.inr ⟨rfl, by decide⟩
theorem own_ccB {c d : Int32} (h : CC c d) : B01 d := by
  rcases h with ⟨-, h⟩ | ⟨-, h⟩
  · exact Or.inr h
  · exact Or.inl h
theorem own_ccN {c d : Int32} (h : CC c d) : c ≠ d := by
  rcases h with ⟨rfl, rfl⟩ | ⟨rfl, rfl⟩ <;> decide
theorem own_len2 {c : Int32} (h : B01 c) : c.toNatClampNeg < 2 := by rcases h with rfl | rfl <;> decide
theorem own_f1l (x y : Int32) : x.toInt ≤ (f1 x y).toInt := by
  unfold f1
  by_cases h : x < y
  · rw [if_pos h]; exact Int.le_of_lt (Int32.lt_iff_toInt_lt.mp h)
  · rw [if_neg h]; exact Int.le_refl _
theorem own_s01 {c d sa sb : Int32} (h : CC c d) (h1 : 0 ≤ sa.toInt) (h2 : 0 ≤ sb.toInt) : 0 ≤ (sel d sb (sel c sa 0)).toInt ∧ 0 ≤ (sel d (sel c 0 sa) sb).toInt := by
  rcases h with ⟨rfl, rfl⟩ | ⟨rfl, rfl⟩
  · rw [own_sel1, own_sel0, own_sel1]; exact ⟨h1, h2⟩
  · rw [own_sel0, own_sel0, own_sel1]; exact ⟨h2, h1⟩
theorem own_hsz {c d sa sb na nb ta tb ba bb : Int32} (h : CC c d) (ea : f1 0 (na - ta) = ba) (eb : f1 0 (nb - tb) = bb) (h1 : ba.toInt ≤ sa.toInt) (h2 : bb.toInt ≤ sb.toInt) : ∀ x : Int32, B01 x → (prf x na nb ta tb).toInt ≤ (sel (sel x c d) (sel d sb (sel c sa 0)) (sel d (sel c 0 sa) sb)).toInt := by
  intro x hx
  have e : ∀ y : Int32, y.toInt64.toInt = y.toInt := fun y => by simp
  show (f1 0 (sel x na nb - sel x ta tb)).toInt64.toInt ≤ _
  rw [e]
  rcases hx with rfl | rfl
  · rw [own_sel0, own_sel0, own_sel0, ea]
    rcases h with ⟨rfl, rfl⟩ | ⟨rfl, rfl⟩
    · rw [own_sel0, own_sel1, own_sel0]; exact h1
    · rw [own_sel1, own_sel0, own_sel1]; exact h1
  · rw [own_sel1, own_sel1, own_sel1, eb]
    rcases h with ⟨rfl, rfl⟩ | ⟨rfl, rfl⟩
    · rw [own_sel1, own_sel1]; exact h2
    · rw [own_sel0, own_sel0]; exact h2
theorem own_pos {n t b : Int32} (hn : 0 ≤ n.toInt) (ht : 0 ≤ t.toInt) (e : f1 0 (n - t) = b) (h : 0 < b) : 0 < (f1 0 (n - t)).toInt64.toInt ∧ t < n := by
  have hb : (0 : Int) < b.toInt := by have := Int32.lt_iff_toInt_lt.mp h; simpa using this
  have e2 : (f1 0 (n - t)).toInt64.toInt = b.toInt := by rw [e]; simp
  refine ⟨by rw [e2]; exact hb, ?_⟩
  have n2 := Int32.toInt_lt n
  have t2 := Int32.toInt_lt t
  have s : (n - t).toInt = n.toInt - t.toInt := by
    rw [Int32.toInt_sub]
    apply Int.bmod_eq_of_le <;> omega
  unfold f1 at e
  by_cases q : 0 < n - t
  · rw [if_pos q] at e
    rw [← e, s] at hb
    exact Int32.lt_iff_toInt_lt.mpr (by omega)
  · rw [if_neg q] at e
    subst e
    exact absurd h (by decide)
theorem own_sh0 {na nb ta tb ba : Int32} (hn : 0 ≤ na.toInt) (ht : 0 ≤ ta.toInt) (e : f1 0 (na - ta) = ba) (h : 0 < ba) : Sh 0 na nb ta tb := by
  show 0 < (f1 0 (sel 0 na nb - sel 0 ta tb)).toInt64.toInt ∧ sel 0 ta tb < sel 0 na nb
  rw [own_sel0, own_sel0]; exact own_pos hn ht e h
theorem own_sh1 {na nb ta tb bb : Int32} (hn : 0 ≤ nb.toInt) (ht : 0 ≤ tb.toInt) (e : f1 0 (nb - tb) = bb) (h : 0 < bb) : Sh 1 na nb ta tb := by
  show 0 < (f1 0 (sel 1 na nb - sel 1 ta tb)).toInt64.toInt ∧ sel 1 ta tb < sel 1 na nb
  rw [own_sel1, own_sel1]; exact own_pos hn ht e h
abbrev SL (sc a b ba bb : Int32) : Prop := (sc = 0 ∧ a = 0 ∧ b = 1 ∧ ¬ 0 < ba ∧ ¬ 0 < bb) ∨ (sc = 1 ∧ a = 0 ∧ b = 1 ∧ 0 < ba ∧ ¬ 0 < bb) ∨ (sc = 1 ∧ a = 1 ∧ b = 0 ∧ ¬ 0 < ba ∧ 0 < bb) ∨ (sc = 2 ∧ a = 0 ∧ b = 1 ∧ 0 < ba ∧ 0 < bb) ∨ (sc = 2 ∧ a = 1 ∧ b = 0 ∧ 0 < ba ∧ 0 < bb)
theorem own_sl {sc a b ba bb : Int32} (h : SL sc a b ba bb) : B01 a ∧ B01 b ∧ a ≠ b := by
  rcases h with ⟨-, rfl, rfl, -, -⟩ | ⟨-, rfl, rfl, -, -⟩ | ⟨-, rfl, rfl, -, -⟩ | ⟨-, rfl, rfl, -, -⟩ | ⟨-, rfl, rfl, -, -⟩
  · exact ⟨Or.inl rfl, Or.inr rfl, by decide⟩
  · exact ⟨Or.inl rfl, Or.inr rfl, by decide⟩
  · exact ⟨Or.inr rfl, Or.inl rfl, by decide⟩
  · exact ⟨Or.inl rfl, Or.inr rfl, by decide⟩
  · exact ⟨Or.inr rfl, Or.inl rfl, by decide⟩
theorem own_sc {sc a b na nb ta tb ba bb : Int32} (h : SL sc a b ba bb) (h0 : 0 < ba → Sh 0 na nb ta tb) (h1 : 0 < bb → Sh 1 na nb ta tb) : SC sc a b na nb ta tb := by
  rcases h with ⟨rfl, rfl, rfl, x, y⟩ | ⟨rfl, rfl, rfl, x, y⟩ | ⟨rfl, rfl, rfl, x, y⟩ | ⟨rfl, rfl, rfl, x, y⟩ | ⟨rfl, rfl, rfl, x, y⟩
  · exact Or.inl rfl
  · exact Or.inr (Or.inl ⟨rfl, h0 x⟩)
  · exact Or.inr (Or.inl ⟨rfl, h1 y⟩)
  · exact Or.inr (Or.inr ⟨rfl, h0 x, h1 y⟩)
  · exact Or.inr (Or.inr ⟨rfl, h1 y, h0 x⟩)
theorem own_shape {sc a b ga gb ba bb : Int32} (h1 : SL sc a b ba bb) (h2 : SR sc a b ga gb) : (ga = 4 ∧ gb = 5 ∧ ¬ 0 < ba ∧ ¬ 0 < bb) ∨ (ga = 0 ∧ gb = 5 ∧ 0 < ba ∧ ¬ 0 < bb) ∨ (ga = 4 ∧ gb = 0 ∧ 0 < ba ∧ ¬ 0 < bb) ∨ (ga = 1 ∧ gb = 5 ∧ ¬ 0 < ba ∧ 0 < bb) ∨ (ga = 4 ∧ gb = 1 ∧ ¬ 0 < ba ∧ 0 < bb) ∨ (ga = 0 ∧ gb = 1 ∧ 0 < ba ∧ 0 < bb) ∨ (ga = 1 ∧ gb = 0 ∧ 0 < ba ∧ 0 < bb) := by
  rcases h1 with ⟨rfl, rfl, rfl, x, y⟩ | ⟨rfl, rfl, rfl, x, y⟩ | ⟨rfl, rfl, rfl, x, y⟩ | ⟨rfl, rfl, rfl, x, y⟩ | ⟨rfl, rfl, rfl, x, y⟩ <;> rcases h2 with ⟨e, g, k⟩ | ⟨e, ⟨g, k⟩ | ⟨g, k⟩⟩ | ⟨e, ⟨g, k⟩ | ⟨g, k⟩⟩ <;> first
    | exact absurd e (by decide)
    | exact Or.inl ⟨g, k, x, y⟩
    | exact Or.inr (Or.inl ⟨g, k, x, y⟩)
    | exact Or.inr (Or.inr (Or.inl ⟨g, k, x, y⟩))
    | exact Or.inr (Or.inr (Or.inr (Or.inl ⟨g, k, x, y⟩)))
    | exact Or.inr (Or.inr (Or.inr (Or.inr (Or.inl ⟨g, k, x, y⟩))))
    | exact Or.inr (Or.inr (Or.inr (Or.inr (Or.inr (Or.inl ⟨g, k, x, y⟩)))))
    | exact Or.inr (Or.inr (Or.inr (Or.inr (Or.inr (Or.inr ⟨g, k, x, y⟩)))))
theorem own_gab {sc a b ga gb ba bb : Int32} (h1 : SL sc a b ba bb) (h2 : SR sc a b ga gb) : (ga < 2 → B01 ga) ∧ (gb < 2 → B01 gb) := by
  rcases own_shape h1 h2 with ⟨rfl, rfl, -, -⟩ | ⟨rfl, rfl, -, -⟩ | ⟨rfl, rfl, -, -⟩ | ⟨rfl, rfl, -, -⟩ | ⟨rfl, rfl, -, -⟩ | ⟨rfl, rfl, -, -⟩ | ⟨rfl, rfl, -, -⟩ <;> decide
section WRs
variable {Ta Tb : Prop} {ga gb kk oa ob : Int32} {qa qb : UInt64}
theorem own_e1 (h : WR Ta Tb ga gb kk oa ob qa qb) (na : ¬ Ta) (nb : ¬ Tb) : kk = 0 := by
  rcases h with h | h | h | h
  · exact h.2.2
  · exact absurd h.1 na
  · exact absurd h.2.1 nb
  · exact absurd h.1 na
theorem own_e2 (h : WR Ta Tb ga gb kk oa ob qa qb) (ya : Ta) (nb : ¬ Tb) : kk = 1 ∧ oa = ga ∧ qa = 4607182418800017408 := by
  rcases h with h | h | h | h
  · exact absurd ya h.1
  · exact h.2.2
  · exact absurd ya h.1
  · exact absurd h.2.1 nb
theorem own_e3 (h : WR Ta Tb ga gb kk oa ob qa qb) (na : ¬ Ta) (yb : Tb) : kk = 1 ∧ oa = gb ∧ qa = 4607182418800017408 := by
  rcases h with h | h | h | h
  · exact absurd yb h.2.1
  · exact absurd h.1 na
  · exact h.2.2
  · exact absurd h.1 na
theorem own_e4 (h : WR Ta Tb ga gb kk oa ob qa qb) (ya : Ta) (yb : Tb) : kk = 2 ∧ oa = ga ∧ ob = gb ∧ qa = 4607182418800017408 ∧ qb = 4607182418800017408 := by
  rcases h with h | h | h | h
  · exact absurd ya h.1
  · exact absurd yb h.2.1
  · exact absurd ya h.1
  · exact h.2.2
end WRs
theorem own_end {sc a b ba bb ga gb na nb td te ia ib kk oa ob xp : Int32} {qa qb : UInt64} (h1 : SL sc a b ba bb) (h2 : SR sc a b ga gb) (h3 : (ia = 1 ∧ 0 < ba ∧ td < na) ∨ (ia = 0 ∧ ¬ (0 < ba ∧ td < na))) (h4 : (ib = 1 ∧ 0 < bb ∧ te < nb) ∨ (ib = 0 ∧ ¬ (0 < bb ∧ te < nb))) (h5 : WR (Tk ga na nb td te) (Tk gb na nb td te) ga gb kk oa ob qa qb) (hx : (if ia = (0 : Int32) then (0 : Int32) else (1 : Int32)) + (if ib = (0 : Int32) then (0 : Int32) else (1 : Int32)) = xp) :
    kk = xp ∧ (xp = 1 → oa = (if ia = (0 : Int32) then (1 : Int32) else (0 : Int32)) ∧ qa = 4607182418800017408) ∧ (¬ xp = 0 → ¬ xp = 1 → ((oa = 0 ∧ ob = 1) ∨ (oa = 1 ∧ ob = 0)) ∧ qa = 4607182418800017408 ∧ qb = 4607182418800017408) := by
  have t0 : td < na → Tk 0 na nb td te := fun q => ⟨by decide, by rw [own_sel0, own_sel0]; exact q⟩
  have u0 : Tk 0 na nb td te → td < na := fun q => by have r := q.2; rw [own_sel0, own_sel0] at r; exact r
  have t1 : te < nb → Tk 1 na nb td te := fun q => ⟨by decide, by rw [own_sel1, own_sel1]; exact q⟩
  have u1 : Tk 1 na nb td te → te < nb := fun q => by have r := q.2; rw [own_sel1, own_sel1] at r; exact r
  have n4 : ¬ Tk 4 na nb td te := fun q => absurd q.1 (by decide)
  have n5 : ¬ Tk 5 na nb td te := fun q => absurd q.1 (by decide)
  have c0 : 0 < ba → (ia = 1 ∧ td < na) ∨ (ia = 0 ∧ ¬ td < na) := fun q => by
    rcases h3 with ⟨x, y, z⟩ | ⟨x, y⟩
    · exact Or.inl ⟨x, z⟩
    · exact Or.inr ⟨x, fun r => y ⟨q, r⟩⟩
  have d0 : ¬ 0 < ba → ia = 0 := fun q => by
    rcases h3 with ⟨x, y, z⟩ | ⟨x, y⟩
    · exact absurd y q
    · exact x
  have c1 : 0 < bb → (ib = 1 ∧ te < nb) ∨ (ib = 0 ∧ ¬ te < nb) := fun q => by
    rcases h4 with ⟨x, y, z⟩ | ⟨x, y⟩
    · exact Or.inl ⟨x, z⟩
    · exact Or.inr ⟨x, fun r => y ⟨q, r⟩⟩
  have d1 : ¬ 0 < bb → ib = 0 := fun q => by
    rcases h4 with ⟨x, y, z⟩ | ⟨x, y⟩
    · exact absurd y q
    · exact x
  clear h3 h4
  have f00 : ia = 0 → ib = 0 → kk = 0 → kk = xp ∧ (xp = 1 → oa = (if ia = (0 : Int32) then (1 : Int32) else (0 : Int32)) ∧ qa = 4607182418800017408) ∧ (¬ xp = 0 → ¬ xp = 1 → ((oa = 0 ∧ ob = 1) ∨ (oa = 1 ∧ ob = 0)) ∧ qa = 4607182418800017408 ∧ qb = 4607182418800017408) := by
    intro x y z
    have e : xp = 0 := by rw [← hx, x, y]; decide
    rw [z, e]; exact ⟨rfl, fun q => absurd q (by decide), fun q => absurd rfl q⟩
  have f10 : ia = 1 → ib = 0 → kk = 1 → oa = 0 → qa = 4607182418800017408 → kk = xp ∧ (xp = 1 → oa = (if ia = (0 : Int32) then (1 : Int32) else (0 : Int32)) ∧ qa = 4607182418800017408) ∧ (¬ xp = 0 → ¬ xp = 1 → ((oa = 0 ∧ ob = 1) ∨ (oa = 1 ∧ ob = 0)) ∧ qa = 4607182418800017408 ∧ qb = 4607182418800017408) := by
    intro x y z o q
    have e : xp = 1 := by rw [← hx, x, y]; decide
    rw [z, e, x, o]; exact ⟨rfl, fun _ => ⟨by decide, q⟩, fun _ r => absurd rfl r⟩
  have f01 : ia = 0 → ib = 1 → kk = 1 → oa = 1 → qa = 4607182418800017408 → kk = xp ∧ (xp = 1 → oa = (if ia = (0 : Int32) then (1 : Int32) else (0 : Int32)) ∧ qa = 4607182418800017408) ∧ (¬ xp = 0 → ¬ xp = 1 → ((oa = 0 ∧ ob = 1) ∨ (oa = 1 ∧ ob = 0)) ∧ qa = 4607182418800017408 ∧ qb = 4607182418800017408) := by
    intro x y z o q
    have e : xp = 1 := by rw [← hx, x, y]; decide
    rw [z, e, x, o]; exact ⟨rfl, fun _ => ⟨by decide, q⟩, fun _ r => absurd rfl r⟩
  have f11 : ia = 1 → ib = 1 → kk = 2 → ((oa = 0 ∧ ob = 1) ∨ (oa = 1 ∧ ob = 0)) → qa = 4607182418800017408 → qb = 4607182418800017408 → kk = xp ∧ (xp = 1 → oa = (if ia = (0 : Int32) then (1 : Int32) else (0 : Int32)) ∧ qa = 4607182418800017408) ∧ (¬ xp = 0 → ¬ xp = 1 → ((oa = 0 ∧ ob = 1) ∨ (oa = 1 ∧ ob = 0)) ∧ qa = 4607182418800017408 ∧ qb = 4607182418800017408) := by
    intro x y z o q r
    have e : xp = 2 := by rw [← hx, x, y]; decide
    rw [z, e]; exact ⟨rfl, fun q => absurd q (by decide), fun _ _ => ⟨o, q, r⟩⟩
  rcases own_shape h1 h2 with ⟨rfl, rfl, x, y⟩ | ⟨rfl, rfl, x, y⟩ | ⟨rfl, rfl, x, y⟩ | ⟨rfl, rfl, x, y⟩ | ⟨rfl, rfl, x, y⟩ | ⟨rfl, rfl, x, y⟩ | ⟨rfl, rfl, x, y⟩
  · exact f00 (d0 x) (d1 y) (own_e1 h5 n4 n5)
  · rcases c0 x with ⟨p, q⟩ | ⟨p, q⟩
    · obtain ⟨k1, k2, k3⟩ := own_e2 h5 (t0 q) n5
      exact f10 p (d1 y) k1 k2 k3
    · exact f00 p (d1 y) (own_e1 h5 (fun r => q (u0 r)) n5)
  · rcases c0 x with ⟨p, q⟩ | ⟨p, q⟩
    · obtain ⟨k1, k2, k3⟩ := own_e3 h5 n4 (t0 q)
      exact f10 p (d1 y) k1 k2 k3
    · exact f00 p (d1 y) (own_e1 h5 n4 (fun r => q (u0 r)))
  · rcases c1 y with ⟨p, q⟩ | ⟨p, q⟩
    · obtain ⟨k1, k2, k3⟩ := own_e2 h5 (t1 q) n5
      exact f01 (d0 x) p k1 k2 k3
    · exact f00 (d0 x) p (own_e1 h5 (fun r => q (u1 r)) n5)
  · rcases c1 y with ⟨p, q⟩ | ⟨p, q⟩
    · obtain ⟨k1, k2, k3⟩ := own_e3 h5 n4 (t1 q)
      exact f01 (d0 x) p k1 k2 k3
    · exact f00 (d0 x) p (own_e1 h5 n4 (fun r => q (u1 r)))
  · rcases c0 x with ⟨p, q⟩ | ⟨p, q⟩ <;> rcases c1 y with ⟨p2, q2⟩ | ⟨p2, q2⟩
    · obtain ⟨k1, k2, k3, k4, k5⟩ := own_e4 h5 (t0 q) (t1 q2)
      exact f11 p p2 k1 (Or.inl ⟨k2, k3⟩) k4 k5
    · obtain ⟨k1, k2, k3⟩ := own_e2 h5 (t0 q) (fun r => q2 (u1 r))
      exact f10 p p2 k1 k2 k3
    · obtain ⟨k1, k2, k3⟩ := own_e3 h5 (fun r => q (u0 r)) (t1 q2)
      exact f01 p p2 k1 k2 k3
    · exact f00 p p2 (own_e1 h5 (fun r => q (u0 r)) (fun r => q2 (u1 r)))
  · rcases c0 x with ⟨p, q⟩ | ⟨p, q⟩ <;> rcases c1 y with ⟨p2, q2⟩ | ⟨p2, q2⟩
    · obtain ⟨k1, k2, k3, k4, k5⟩ := own_e4 h5 (t1 q2) (t0 q)
      exact f11 p p2 k1 (Or.inr ⟨k2, k3⟩) k4 k5
    · obtain ⟨k1, k2, k3⟩ := own_e3 h5 (fun r => q2 (u1 r)) (t0 q)
      exact f10 p p2 k1 k2 k3
    · obtain ⟨k1, k2, k3⟩ := own_e2 h5 (t1 q2) (fun r => q (u0 r))
      exact f01 p p2 k1 k2 k3
    · exact f00 p p2 (own_e1 h5 (fun r => q2 (u1 r)) (fun r => q (u0 r)))

theorem pn_0 : plainName "com/example/quorumstone/quorumstone/check/RelaxationWeightsPinLaw" = true := by first | (simp [plainName, overriddenIn]; done) | decide +kernel
theorem ef_0 (m : MethodId) (p0 : Int32) (p1 : Int32) (p2 : Int32) (p3 : Int32) (q4 : Int64) (p5 : Int32) : entryFrame m #[(.int p0), (.int p1), (.int p2), (.int p3), (.long q4), (.int p5)] maxLocals = mkF m 0 #[vi p0, vi p1, vi p2, vi p3, vj q4, ss, vi p5, uu, uu, uu, uu, uu, uu, uu, uu, uu, uu, uu, uu, uu, uu, uu, uu, uu, uu, uu, uu, uu, uu, uu, uu, uu, uu, uu, uu] [] := by first | (simp [entryFrame, mkF, argsToLocals, Value.category, maxLocals]; done) | rfl
abbrev Q0 (Z : State) (p0 p1 p2 p3 : Int32) (q4 : Int64) (p5 : Int32) (h0 : Heap) (n0 : Nat) (v : Option Value) (h : Heap) (L : List Loc) : Prop := v = some (.int 1) ∧ Fr n0 L
set_option maxRecDepth 65536 in
set_option maxHeartbeats 40000000 in
theorem rm0 (l : Launch) (Z : State) (a0 : Array Value) (hw : TW a0 Z) (ws : List Jvm.Cond) (p0 p1 p2 p3 : Int32) (q4 : Int64) (p5 : Int32) (h0 : Heap) (n0 : Nat) (Zs : n0 ≤ h0.size) :
    Mt l x code maxLocals ret ws room_1 #[(.int p0), (.int p1), (.int p2), (.int p3), (.long q4), (.int p5)] Z h0 (Q0 Z p0 p1 p2 p3 q4 p5 h0 n0) 25 87 := by
  refine own_body n0 (plainFor_of_name pn_0) hw (fun m => ef_0 m p0 p1 p2 p3 q4 p5) ?_
  intro p ev s m below meth c s₁ Bd hZ hx hby hml hown X0 eh0 N0 w
  have hown : s.vm.findClass "com/example/quorumstone/quorumstone/check/RelaxationWeightsPinLaw" = some m.cls := hown
  show GolF _ _ _ _ _ _ _ s₁ m 0 #[vi p0, vi p1, vi p2, vi p3, vj q4, ss, vi p5, uu, uu, uu, uu, uu, uu, uu, uu, uu, uu, uu, uu, uu, uu, uu, uu, uu, uu, uu, uu, uu, uu, uu, uu, uu, uu, uu, uu] []
  refine Gol.iloadN X0 hx hby at_0 1 rfl rfl ?_
  refine Gol.ldcInt X0 hx hby hZ hown at_1 3 rfl (w 0 _ rfl) ?_
  refine Gol.iand X0 hx hby at_3 4 rfl rfl ?_
  refine Gol.istore X0 hx hby at_4 6 rfl (l' := #[vi p0, vi p1, vi p2, vi p3, vj q4, ss, vi p5, vi (p0 &&& (2147483647 : Int32)), uu, uu, uu, uu, uu, uu, uu, uu, uu, uu, uu, uu, uu, uu, uu, uu, uu, uu, uu, uu, uu, uu, uu, uu, uu, uu, uu]) rfl ?_
  generalize hN_na : (p0 &&& (2147483647 : Int32)) = na
  have hna : 0 ≤ na.toInt := by rw [← hN_na]; exact own_mask _
  refine Gol.iloadN X0 hx hby at_6 7 rfl rfl ?_
  refine Gol.ldcInt X0 hx hby hZ hown at_7 9 rfl (w 0 _ rfl) ?_
  refine Gol.iand X0 hx hby at_9 10 rfl rfl ?_
  refine Gol.istore X0 hx hby at_10 12 rfl (l' := #[vi p0, vi p1, vi p2, vi p3, vj q4, ss, vi p5, vi na, vi (p1 &&& (2147483647 : Int32)), uu, uu, uu, uu, uu, uu, uu, uu, uu, uu, uu, uu, uu, uu, uu, uu, uu, uu, uu, uu, uu, uu, uu, uu, uu, uu]) rfl ?_
  generalize hN_nb : (p1 &&& (2147483647 : Int32)) = nb
  have hnb : 0 ≤ nb.toInt := by rw [← hN_nb]; exact own_mask _
  refine Gol.iloadN X0 hx hby at_12 13 rfl rfl ?_
  refine Gol.ldcInt X0 hx hby hZ hown at_13 15 rfl (w 0 _ rfl) ?_
  refine Gol.iand X0 hx hby at_15 16 rfl rfl ?_
  refine Gol.istore X0 hx hby at_16 18 rfl (l' := #[vi p0, vi p1, vi p2, vi p3, vj q4, ss, vi p5, vi na, vi nb, vi (p2 &&& (2147483647 : Int32)), uu, uu, uu, uu, uu, uu, uu, uu, uu, uu, uu, uu, uu, uu, uu, uu, uu, uu, uu, uu, uu, uu, uu, uu, uu]) rfl ?_
  generalize hN_ta : (p2 &&& (2147483647 : Int32)) = ta
  have hta : 0 ≤ ta.toInt := by rw [← hN_ta]; exact own_mask _
  refine Gol.iloadN X0 hx hby at_18 19 rfl rfl ?_
  refine Gol.ldcInt X0 hx hby hZ hown at_19 21 rfl (w 0 _ rfl) ?_
  refine Gol.iand X0 hx hby at_21 22 rfl rfl ?_
  refine Gol.istore X0 hx hby at_22 24 rfl (l' := #[vi p0, vi p1, vi p2, vi p3, vj q4, ss, vi p5, vi na, vi nb, vi ta, vi (p3 &&& (2147483647 : Int32)), uu, uu, uu, uu, uu, uu, uu, uu, uu, uu, uu, uu, uu, uu, uu, uu, uu, uu, uu, uu, uu, uu, uu, uu]) rfl ?_
  generalize hN_tb : (p3 &&& (2147483647 : Int32)) = tb
  have htb : 0 ≤ tb.toInt := by rw [← hN_tb]; exact own_mask _
  refine Gol.iconst X0 hx hby at_24 25 rfl (z := (0 : Int32)) rfl ?_
  refine Gol.iload X0 hx hby at_25 27 rfl rfl ?_
  refine Gol.iload X0 hx hby at_27 29 rfl rfl ?_
  refine Gol.isub X0 hx hby at_29 30 rfl rfl ?_
  refine Gol.callS X0 hx hby hZ hown 0 [(.int 0), (.int (na - ta))] (w 1 _ rfl) (w 2 _ rfl) (w 3 _ rfl) (w 4 _ rfl) (by decide) (rm1 l Z a0 hw [] (0 : Int32) (na - ta)  h0 n0 Zs ) (by decide) (by decide) eh0 (by rw [hml]; rfl) (rest := []) (Nat.le_of_eq rfl) (by decide) (by decide) (lenOf pd_0 rfl) rfl at_30 33 rfl ?_
  intro T1 v1 L1 X1 hQ1
  obtain ⟨rfl, Nq1, eq1⟩ := hQ1
  have N1 := Fr.app N0 Nq1
  show GolF _ _ _ _ _ _ _ T1 m 33 #[vi p0, vi p1, vi p2, vi p3, vj q4, ss, vi p5, vi na, vi nb, vi ta, vi tb, uu, uu, uu, uu, uu, uu, uu, uu, uu, uu, uu, uu, uu, uu, uu, uu, uu, uu, uu, uu, uu, uu, uu, uu] [(.int (f1 (0 : Int32) (na - ta) ))]
  refine Gol.istore X1 hx hby at_33 35 rfl (l' := #[vi p0, vi p1, vi p2, vi p3, vj q4, ss, vi p5, vi na, vi nb, vi ta, vi tb, vi (f1 (0 : Int32) (na - ta) ), uu, uu, uu, uu, uu, uu, uu, uu, uu, uu, uu, uu, uu, uu, uu, uu, uu, uu, uu, uu, uu, uu, uu]) rfl ?_
  generalize hN_ba : (f1 (0 : Int32) (na - ta) ) = ba
  have hba0 : 0 ≤ ba.toInt := by rw [← hN_ba]; exact own_f1l 0 _
  refine Gol.iconst X1 hx hby at_35 36 rfl (z := (0 : Int32)) rfl ?_
  refine Gol.iload X1 hx hby at_36 38 rfl rfl ?_
  refine Gol.iload X1 hx hby at_38 40 rfl rfl ?_
  refine Gol.isub X1 hx hby at_40 41 rfl rfl ?_
  refine Gol.callS X1 hx hby hZ hown 0 [(.int 0), (.int (nb - tb))] (w 1 _ rfl) (w 2 _ rfl) (w 3 _ rfl) (w 4 _ rfl) (by decide) (rm1 l Z a0 hw [] (0 : Int32) (nb - tb)  h0 n0 Zs ) (by decide) (by decide) eq1 (by rw [hml]; rfl) (rest := []) (Nat.le_of_eq rfl) (by decide) (by decide) (lenOf pd_0 rfl) rfl at_41 44 rfl ?_
  intro T2 v2 L2 X2 hQ2
  obtain ⟨rfl, Nq2, eq2⟩ := hQ2
  have N2 := Fr.app N1 Nq2
  show GolF _ _ _ _ _ _ _ T2 m 44 #[vi p0, vi p1, vi p2, vi p3, vj q4, ss, vi p5, vi na, vi nb, vi ta, vi tb, vi ba, uu, uu, uu, uu, uu, uu, uu, uu, uu, uu, uu, uu, uu, uu, uu, uu, uu, uu, uu, uu, uu, uu, uu] [(.int (f1 (0 : Int32) (nb - tb) ))]
  refine Gol.istore X2 hx hby at_44 46 rfl (l' := #[vi p0, vi p1, vi p2, vi p3, vj q4, ss, vi p5, vi na, vi nb, vi ta, vi tb, vi ba, vi (f1 (0 : Int32) (nb - tb) ), uu, uu, uu, uu, uu, uu, uu, uu, uu, uu, uu, uu, uu, uu, uu, uu, uu, uu, uu, uu, uu, uu]) rfl ?_
  generalize hN_bb : (f1 (0 : Int32) (nb - tb) ) = bb
  have hbb0 : 0 ≤ bb.toInt := by rw [← hN_bb]; exact own_f1l 0 _
  refine Gol.iload X2 hx hby at_46 48 rfl rfl ?_
  refine Gol.iconst X2 hx hby at_48 49 rfl (z := (1 : Int32)) rfl ?_
  refine Gol.iand X2 hx hby at_49 50 rfl rfl ?_
  refine Gol.dia (S' := (T2.setTop (mkF m 58 #[vi p0, vi p1, vi p2, vi p3, vj q4, ss, vi p5, vi na, vi nb, vi ta, vi tb, vi ba, vi bb, uu, uu, uu, uu, uu, uu, uu, uu, uu, uu, uu, uu, uu, uu, uu, uu, uu, uu, uu, uu, uu, uu] [(.int (if (p5 &&& (1 : Int32)) = (0 : Int32) then (0 : Int32) else (1 : Int32)))]))) ?_ ?_
  · intro k
    by_cases hd50_3 : (p5 &&& (1 : Int32)) = (0 : Int32)
    · rw [if_pos hd50_3] at k
      refine Gol.ifYes X2 hx hby at_50 57 (by decide) ((if0 _ _).trans (teq hd50_3).1) ?_
      refine Gol.iconst X2 hx hby at_57 58 rfl (z := (0 : Int32)) rfl ?_
      exact k
    · rw [if_neg hd50_3] at k
      refine Gol.ifNo X2 hx hby at_50 53 rfl ((if0 _ _).trans (feq hd50_3).1) ?_
      refine Gol.iconst X2 hx hby at_53 54 rfl (z := (1 : Int32)) rfl ?_
      refine Gol.goto X2 hx hby at_54 58 (by decide) ?_
      exact k
  show GolF _ _ _ _ _ _ _ T2 m 58 #[vi p0, vi p1, vi p2, vi p3, vj q4, ss, vi p5, vi na, vi nb, vi ta, vi tb, vi ba, vi bb, uu, uu, uu, uu, uu, uu, uu, uu, uu, uu, uu, uu, uu, uu, uu, uu, uu, uu, uu, uu, uu, uu] [(.int (if (p5 &&& (1 : Int32)) = (0 : Int32) then (0 : Int32) else (1 : Int32)))]
  refine Gol.istore X2 hx hby at_58 60 rfl (l' := #[vi p0, vi p1, vi p2, vi p3, vj q4, ss, vi p5, vi na, vi nb, vi ta, vi tb, vi ba, vi bb, vi (if (p5 &&& (1 : Int32)) = (0 : Int32) then (0 : Int32) else (1 : Int32)), uu, uu, uu, uu, uu, uu, uu, uu, uu, uu, uu, uu, uu, uu, uu, uu, uu, uu, uu, uu, uu]) rfl ?_
  generalize hN_sw : (if (p5 &&& (1 : Int32)) = (0 : Int32) then (0 : Int32) else (1 : Int32)) = sw
  refine Gol.iload X2 hx hby at_60 62 rfl rfl ?_
  refine Gol.iconst X2 hx hby at_62 63 rfl (z := (2 : Int32)) rfl ?_
  refine Gol.iand X2 hx hby at_63 64 rfl rfl ?_
  refine Gol.dia (S' := (T2.setTop (mkF m 72 #[vi p0, vi p1, vi p2, vi p3, vj q4, ss, vi p5, vi na, vi nb, vi ta, vi tb, vi ba, vi bb, vi sw, uu, uu, uu, uu, uu, uu, uu, uu, uu, uu, uu, uu, uu, uu, uu, uu, uu, uu, uu, uu, uu] [(.int (if (p5 &&& (2 : Int32)) = (0 : Int32) then (0 : Int32) else (1 : Int32)))]))) ?_ ?_
  · intro k
    by_cases hd64_4 : (p5 &&& (2 : Int32)) = (0 : Int32)
    · rw [if_pos hd64_4] at k
      refine Gol.ifYes X2 hx hby at_64 71 (by decide) ((if0 _ _).trans (teq hd64_4).1) ?_
      refine Gol.iconst X2 hx hby at_71 72 rfl (z := (0 : Int32)) rfl ?_
      exact k
    · rw [if_neg hd64_4] at k
      refine Gol.ifNo X2 hx hby at_64 67 rfl ((if0 _ _).trans (feq hd64_4).1) ?_
      refine Gol.iconst X2 hx hby at_67 68 rfl (z := (1 : Int32)) rfl ?_
      refine Gol.goto X2 hx hby at_68 72 (by decide) ?_
      exact k
  show GolF _ _ _ _ _ _ _ T2 m 72 #[vi p0, vi p1, vi p2, vi p3, vj q4, ss, vi p5, vi na, vi nb, vi ta, vi tb, vi ba, vi bb, vi sw, uu, uu, uu, uu, uu, uu, uu, uu, uu, uu, uu, uu, uu, uu, uu, uu, uu, uu, uu, uu, uu] [(.int (if (p5 &&& (2 : Int32)) = (0 : Int32) then (0 : Int32) else (1 : Int32)))]
  refine Gol.istore X2 hx hby at_72 74 rfl (l' := #[vi p0, vi p1, vi p2, vi p3, vj q4, ss, vi p5, vi na, vi nb, vi ta, vi tb, vi ba, vi bb, vi sw, vi (if (p5 &&& (2 : Int32)) = (0 : Int32) then (0 : Int32) else (1 : Int32)), uu, uu, uu, uu, uu, uu, uu, uu, uu, uu, uu, uu, uu, uu, uu, uu, uu, uu, uu, uu]) rfl ?_
  generalize hN_rv : (if (p5 &&& (2 : Int32)) = (0 : Int32) then (0 : Int32) else (1 : Int32)) = rv
  refine Gol.iload X2 hx hby at_74 76 rfl rfl ?_
  refine Gol.dia (S' := (T2.setTop (mkF m 84 #[vi p0, vi p1, vi p2, vi p3, vj q4, ss, vi p5, vi na, vi nb, vi ta, vi tb, vi ba, vi bb, vi sw, vi rv, uu, uu, uu, uu, uu, uu, uu, uu, uu, uu, uu, uu, uu, uu, uu, uu, uu, uu, uu, uu] [(.int (if sw = (0 : Int32) then (0 : Int32) else (1 : Int32)))]))) ?_ ?_
  · intro k
    by_cases hd76_5 : sw = (0 : Int32)
    · rw [if_pos hd76_5] at k
      refine Gol.ifYes X2 hx hby at_76 83 (by decide) ((if0 _ _).trans (teq hd76_5).1) ?_
      refine Gol.iconst X2 hx hby at_83 84 rfl (z := (0 : Int32)) rfl ?_
      exact k
    · rw [if_neg hd76_5] at k
      refine Gol.ifNo X2 hx hby at_76 79 rfl ((if0 _ _).trans (feq hd76_5).1) ?_
      refine Gol.iconst X2 hx hby at_79 80 rfl (z := (1 : Int32)) rfl ?_
      refine Gol.goto X2 hx hby at_80 84 (by decide) ?_
      exact k
  show GolF _ _ _ _ _ _ _ T2 m 84 #[vi p0, vi p1, vi p2, vi p3, vj q4, ss, vi p5, vi na, vi nb, vi ta, vi tb, vi ba, vi bb, vi sw, vi rv, uu, uu, uu, uu, uu, uu, uu, uu, uu, uu, uu, uu, uu, uu, uu, uu, uu, uu, uu, uu] [(.int (if sw = (0 : Int32) then (0 : Int32) else (1 : Int32)))]
  refine Gol.istore X2 hx hby at_84 86 rfl (l' := #[vi p0, vi p1, vi p2, vi p3, vj q4, ss, vi p5, vi na, vi nb, vi ta, vi tb, vi ba, vi bb, vi sw, vi rv, vi (if sw = (0 : Int32) then (0 : Int32) else (1 : Int32)), uu, uu, uu, uu, uu, uu, uu, uu, uu, uu, uu, uu, uu, uu, uu, uu, uu, uu, uu]) rfl ?_
  generalize hN_cz : (if sw = (0 : Int32) then (0 : Int32) else (1 : Int32)) = cz
  have hcz : B01 cz := by rw [← hN_cz]; exact own_b01
  refine Gol.iconst X2 hx hby at_86 87 rfl (z := (1 : Int32)) rfl ?_
  refine Gol.iload X2 hx hby at_87 89 rfl rfl ?_
  refine Gol.isub X2 hx hby at_89 90 rfl rfl ?_
  refine Gol.istore X2 hx hby at_90 92 rfl (l' := #[vi p0, vi p1, vi p2, vi p3, vj q4, ss, vi p5, vi na, vi nb, vi ta, vi tb, vi ba, vi bb, vi sw, vi rv, vi cz, vi ((1 : Int32) - cz), uu, uu, uu, uu, uu, uu, uu, uu, uu, uu, uu, uu, uu, uu, uu, uu, uu, uu]) rfl ?_
  generalize hN_cy : ((1 : Int32) - cz) = cy
  have hcc := own_cc hcz hN_cy
  have hcy := own_ccB hcc
  refine Gol.iconst X2 hx hby at_92 93 rfl (z := (2 : Int32)) rfl ?_
  refine Gol.newarr X2 hx hby hZ (w 5 _ rfl) eq2 2 at_93 95 rfl (by decide) (by decide) (by decide) (by decide) (by decide) ?_
  intro T6 h6 k6 b6 g6 X6 e6 E6 A6
  have g_b6 : n0 ≤ b6 := Nat.le_trans Zs (Nat.le_of_eq g6.symm)
  have Zs := Nat.le_trans Zs E6.1
  have V_b6 : Arv Z h6 b6 k6 .int (2 : Int32) [(.int 0), (.int 0)] (.int 0) := A6.pad (pad_rep [] (.int 0) 2)
  refine Gol.astore X6 hx hby at_95 97 rfl rfl (l' := #[vi p0, vi p1, vi p2, vi p3, vj q4, ss, vi p5, vi na, vi nb, vi ta, vi tb, vi ba, vi bb, vi sw, vi rv, vi cz, vi cy, vr b6, uu, uu, uu, uu, uu, uu, uu, uu, uu, uu, uu, uu, uu, uu, uu, uu, uu]) rfl ?_
  refine Gol.aload X6 hx hby at_97 99 rfl rfl rfl ?_
  refine Gol.iload X6 hx hby at_99 101 rfl rfl ?_
  refine Gol.iload X6 hx hby at_101 103 rfl rfl ?_
  refine Gol.lload X6 hx hby at_103 105 rfl rfl ?_
  refine Gol.ldc2Long X6 hx hby hZ hown at_105 108 rfl (w 6 _ rfl) ?_
  refine Gol.land X6 hx hby at_108 109 rfl rfl ?_
  refine Gol.l2i X6 hx hby at_109 110 rfl rfl ?_
  refine Gol.callS X6 hx hby hZ hown 2 [(.int ba), (.int ((q4 &&& (2147483647 : Int64)).toInt32))] (w 1 _ rfl) (w 2 _ rfl) (w 3 _ rfl) (w 4 _ rfl) (by decide) (rm1 l Z a0 hw [] ba ((q4 &&& (2147483647 : Int64)).toInt32)  h6 n0 Zs ) (by decide) (by decide) e6 (by rw [hml]; rfl) (rest := [(.int cz), (.ref b6)]) (Nat.le_of_eq rfl) (by decide) (by decide) (lenOf pd_0 rfl) rfl at_110 113 rfl ?_
  intro T7 v7 L7 X7 hQ7
  obtain ⟨rfl, Nq7, eq7⟩ := hQ7
  have N7 := Fr.app N2 Nq7
  show GolF _ _ _ _ _ _ _ T7 m 113 #[vi p0, vi p1, vi p2, vi p3, vj q4, ss, vi p5, vi na, vi nb, vi ta, vi tb, vi ba, vi bb, vi sw, vi rv, vi cz, vi cy, vr b6, uu, uu, uu, uu, uu, uu, uu, uu, uu, uu, uu, uu, uu, uu, uu, uu, uu] [(.int (f1 ba ((q4 &&& (2147483647 : Int64)).toInt32) )), (.int cz), (.ref b6)]
  generalize hN_sa : (f1 ba ((q4 &&& (2147483647 : Int64)).toInt32) ) = sa
  have hsa : ba.toInt ≤ sa.toInt := by rw [← hN_sa]; exact own_f1l _ _
  refine Gol.iastore X7 hx hby hZ eq7 V_b6 at_113 114 rfl (own_in2 hcz) cz.toNatClampNeg rfl (own_len2 hcz) ?_
  intro T8 h8 X8 e8 W8 A8
  have V_b6 : Arv Z h8 b6 k6 .int (2 : Int32) [(.int (sel cz sa 0)), (.int (sel cz 0 sa))] (.int 0) := (by have q := A8; rw [own_set6 hcz] at q; exact q)
  have Zs := Nat.le_trans Zs (Keep.of_wr W8).1
  have N8 := Fr.snoc X8 N7 g_b6
  refine Gol.aload X8 hx hby at_114 116 rfl rfl rfl ?_
  refine Gol.iload X8 hx hby at_116 118 rfl rfl ?_
  refine Gol.iload X8 hx hby at_118 120 rfl rfl ?_
  refine Gol.lload X8 hx hby at_120 122 rfl rfl ?_
  refine Gol.bipush X8 hx hby at_122 124 rfl (z := (32 : Int32)) rfl ?_
  refine Gol.lushr X8 hx hby at_124 125 rfl rfl ?_
  refine Gol.ldc2Long X8 hx hby hZ hown at_125 128 rfl (w 6 _ rfl) ?_
  refine Gol.land X8 hx hby at_128 129 rfl rfl ?_
  refine Gol.l2i X8 hx hby at_129 130 rfl rfl ?_
  refine Gol.callS X8 hx hby hZ hown 2 [(.int bb), (.int (((XT.ushrL q4 (32 : Int32)) &&& (2147483647 : Int64)).toInt32))] (w 1 _ rfl) (w 2 _ rfl) (w 3 _ rfl) (w 4 _ rfl) (by decide) (rm1 l Z a0 hw [] bb (((XT.ushrL q4 (32 : Int32)) &&& (2147483647 : Int64)).toInt32)  h8 n0 Zs ) (by decide) (by decide) e8 (by rw [hml]; rfl) (rest := [(.int cy), (.ref b6)]) (Nat.le_of_eq rfl) (by decide) (by decide) (lenOf pd_0 rfl) rfl at_130 133 rfl ?_
  intro T9 v9 L9 X9 hQ9
  obtain ⟨rfl, Nq9, eq9⟩ := hQ9
  have N9 := Fr.app N8 Nq9
  show GolF _ _ _ _ _ _ _ T9 m 133 #[vi p0, vi p1, vi p2, vi p3, vj q4, ss, vi p5, vi na, vi nb, vi ta, vi tb, vi ba, vi bb, vi sw, vi rv, vi cz, vi cy, vr b6, uu, uu, uu, uu, uu, uu, uu, uu, uu, uu, uu, uu, uu, uu, uu, uu, uu] [(.int (f1 bb (((XT.ushrL q4 (32 : Int32)) &&& (2147483647 : Int64)).toInt32) )), (.int cy), (.ref b6)]
  generalize hN_sb : (f1 bb (((XT.ushrL q4 (32 : Int32)) &&& (2147483647 : Int64)).toInt32) ) = sb
  have hsb : bb.toInt ≤ sb.toInt := by rw [← hN_sb]; exact own_f1l _ _
  refine Gol.iastore X9 hx hby hZ eq9 V_b6 at_133 134 rfl (own_in2 hcy) cy.toNatClampNeg rfl (own_len2 hcy) ?_
  intro T10 h10 X10 e10 W10 A10
  have V_b6 : Arv Z h10 b6 k6 .int (2 : Int32) [(.int (sel cy sb (sel cz sa 0))), (.int (sel cy (sel cz 0 sa) sb))] (.int 0) := (by have q := A10; rw [own_set6 hcy] at q; exact q)
  have Zs := Nat.le_trans Zs (Keep.of_wr W10).1
  have N10 := Fr.snoc X10 N9 g_b6
  refine Gol.iconst X10 hx hby at_134 135 rfl (z := (2 : Int32)) rfl ?_
  refine Gol.newarr X10 hx hby hZ (w 7 _ rfl) e10 2 at_135 137 rfl (by decide) (by decide) (by decide) (by decide) (by decide) ?_
  intro T11 h11 k11 b11 g11 X11 e11 E11 A11
  have lo_b6_b11 : b6 < b11 := Nat.lt_of_lt_of_le V_b6.lt (Nat.le_of_eq g11.symm)
  have ne_b6_b11 : b6 ≠ b11 := Nat.ne_of_lt lo_b6_b11
  have g_b11 : n0 ≤ b11 := Nat.le_trans Zs (Nat.le_of_eq g11.symm)
  have V_b6 := V_b6.ext E11
  have Zs := Nat.le_trans Zs E11.1
  have V_b11 : Arv Z h11 b11 k11 .long (2 : Int32) [(.long 0), (.long 0)] (.long 0) := A11.pad (pad_rep [] (.long 0) 2)
  refine Gol.dup X11 hx hby at_137 138 rfl rfl ?_
  refine Gol.iconst X11 hx hby at_138 139 rfl (z := (0 : Int32)) rfl ?_
  refine Gol.lconst X11 hx hby at_139 140 rfl (z := (1 : Int64)) rfl ?_
  refine Gol.iload X11 hx hby at_140 142 rfl rfl ?_
  refine Gol.lshl X11 hx hby at_142 143 rfl rfl ?_
  refine Gol.lastore X11 hx hby hZ e11 V_b11 at_143 144 rfl ⟨by decide, by decide⟩ 0 rfl (Nat.le_of_ble_eq_true rfl) ?_
  intro T12 h12 X12 e12 W12 A12
  have V_b11 : Arv Z h12 b11 k11 .long (2 : Int32) [(.long ((1 : Int64) <<< (cz.toInt64 &&& 63))), (.long 0)] (.long 0) := A12
  have V_b6 := V_b6.other W12 ne_b6_b11
  have Zs := Nat.le_trans Zs (Keep.of_wr W12).1
  have N12 := Fr.snoc X12 N10 g_b11
  refine Gol.dup X12 hx hby at_144 145 rfl rfl ?_
  refine Gol.iconst X12 hx hby at_145 146 rfl (z := (1 : Int32)) rfl ?_
  refine Gol.lconst X12 hx hby at_146 147 rfl (z := (1 : Int64)) rfl ?_
  refine Gol.iload X12 hx hby at_147 149 rfl rfl ?_
  refine Gol.lshl X12 hx hby at_149 150 rfl rfl ?_
  refine Gol.lastore X12 hx hby hZ e12 V_b11 at_150 151 rfl ⟨by decide, by decide⟩ 1 rfl (Nat.le_of_ble_eq_true rfl) ?_
  intro T13 h13 X13 e13 W13 A13
  have V_b11 : Arv Z h13 b11 k11 .long (2 : Int32) [(.long ((1 : Int64) <<< (cz.toInt64 &&& 63))), (.long ((1 : Int64) <<< (cy.toInt64 &&& 63)))] (.long 0) := A13
  have V_b6 := V_b6.other W13 ne_b6_b11
  have Zs := Nat.le_trans Zs (Keep.of_wr W13).1
  have N13 := Fr.snoc X13 N12 g_b11
  refine Gol.astore X13 hx hby at_151 153 rfl rfl (l' := #[vi p0, vi p1, vi p2, vi p3, vj q4, ss, vi p5, vi na, vi nb, vi ta, vi tb, vi ba, vi bb, vi sw, vi rv, vi cz, vi cy, vr b6, vr b11, uu, uu, uu, uu, uu, uu, uu, uu, uu, uu, uu, uu, uu, uu, uu, uu]) rfl ?_
  refine Gol.iconst X13 hx hby at_153 154 rfl (z := (2 : Int32)) rfl ?_
  refine Gol.newarr X13 hx hby hZ (w 5 _ rfl) e13 2 at_154 156 rfl (by decide) (by decide) (by decide) (by decide) (by decide) ?_
  intro T14 h14 k14 b14 g14 X14 e14 E14 A14
  have lo_b6_b14 : b6 < b14 := Nat.lt_of_lt_of_le V_b6.lt (Nat.le_of_eq g14.symm)
  have ne_b6_b14 : b6 ≠ b14 := Nat.ne_of_lt lo_b6_b14
  have lo_b11_b14 : b11 < b14 := Nat.lt_of_lt_of_le V_b11.lt (Nat.le_of_eq g14.symm)
  have ne_b11_b14 : b11 ≠ b14 := Nat.ne_of_lt lo_b11_b14
  have g_b14 : n0 ≤ b14 := Nat.le_trans Zs (Nat.le_of_eq g14.symm)
  have V_b6 := V_b6.ext E14
  have V_b11 := V_b11.ext E14
  have Zs := Nat.le_trans Zs E14.1
  have V_b14 : Arv Z h14 b14 k14 .int (2 : Int32) [(.int 0), (.int 0)] (.int 0) := A14.pad (pad_rep [] (.int 0) 2)
  refine Gol.dup X14 hx hby at_156 157 rfl rfl ?_
  refine Gol.iconst X14 hx hby at_157 158 rfl (z := (0 : Int32)) rfl ?_
  refine Gol.iload X14 hx hby at_158 160 rfl rfl ?_
  refine Gol.iastore X14 hx hby hZ e14 V_b14 at_160 161 rfl ⟨by decide, by decide⟩ 0 rfl (Nat.le_of_ble_eq_true rfl) ?_
  intro T15 h15 X15 e15 W15 A15
  have V_b14 : Arv Z h15 b14 k14 .int (2 : Int32) [(.int na), (.int 0)] (.int 0) := A15
  have V_b6 := V_b6.other W15 ne_b6_b14
  have V_b11 := V_b11.other W15 ne_b11_b14
  have Zs := Nat.le_trans Zs (Keep.of_wr W15).1
  have N15 := Fr.snoc X15 N13 g_b14
  refine Gol.dup X15 hx hby at_161 162 rfl rfl ?_
  refine Gol.iconst X15 hx hby at_162 163 rfl (z := (1 : Int32)) rfl ?_
  refine Gol.iload X15 hx hby at_163 165 rfl rfl ?_
  refine Gol.iastore X15 hx hby hZ e15 V_b14 at_165 166 rfl ⟨by decide, by decide⟩ 1 rfl (Nat.le_of_ble_eq_true rfl) ?_
  intro T16 h16 X16 e16 W16 A16
  have V_b14 : Arv Z h16 b14 k14 .int (2 : Int32) [(.int na), (.int nb)] (.int 0) := A16
  have V_b6 := V_b6.other W16 ne_b6_b14
  have V_b11 := V_b11.other W16 ne_b11_b14
  have Zs := Nat.le_trans Zs (Keep.of_wr W16).1
  have N16 := Fr.snoc X16 N15 g_b14
  refine Gol.astore X16 hx hby at_166 168 rfl rfl (l' := #[vi p0, vi p1, vi p2, vi p3, vj q4, ss, vi p5, vi na, vi nb, vi ta, vi tb, vi ba, vi bb, vi sw, vi rv, vi cz, vi cy, vr b6, vr b11, vr b14, uu, uu, uu, uu, uu, uu, uu, uu, uu, uu, uu, uu, uu, uu, uu]) rfl ?_
  refine Gol.iconst X16 hx hby at_168 169 rfl (z := (2 : Int32)) rfl ?_
  refine Gol.newarr X16 hx hby hZ (w 5 _ rfl) e16 2 at_169 171 rfl (by decide) (by decide) (by decide) (by decide) (by decide) ?_
  intro T17 h17 k17 b17 g17 X17 e17 E17 A17
  have lo_b6_b17 : b6 < b17 := Nat.lt_of_lt_of_le V_b6.lt (Nat.le_of_eq g17.symm)
  have ne_b6_b17 : b6 ≠ b17 := Nat.ne_of_lt lo_b6_b17
  have lo_b11_b17 : b11 < b17 := Nat.lt_of_lt_of_le V_b11.lt (Nat.le_of_eq g17.symm)
  have ne_b11_b17 : b11 ≠ b17 := Nat.ne_of_lt lo_b11_b17
  have lo_b14_b17 : b14 < b17 := Nat.lt_of_lt_of_le V_b14.lt (Nat.le_of_eq g17.symm)
  have ne_b14_b17 : b14 ≠ b17 := Nat.ne_of_lt lo_b14_b17
  have g_b17 : n0 ≤ b17 := Nat.le_trans Zs (Nat.le_of_eq g17.symm)
  have V_b6 := V_b6.ext E17
  have V_b11 := V_b11.ext E17
  have V_b14 := V_b14.ext E17
  have Zs := Nat.le_trans Zs E17.1
  have V_b17 : Arv Z h17 b17 k17 .int (2 : Int32) [(.int 0), (.int 0)] (.int 0) := A17.pad (pad_rep [] (.int 0) 2)
  refine Gol.dup X17 hx hby at_171 172 rfl rfl ?_
  refine Gol.iconst X17 hx hby at_172 173 rfl (z := (0 : Int32)) rfl ?_
  refine Gol.iload X17 hx hby at_173 175 rfl rfl ?_
  refine Gol.iastore X17 hx hby hZ e17 V_b17 at_175 176 rfl ⟨by decide, by decide⟩ 0 rfl (Nat.le_of_ble_eq_true rfl) ?_
  intro T18 h18 X18 e18 W18 A18
  have V_b17 : Arv Z h18 b17 k17 .int (2 : Int32) [(.int ta), (.int 0)] (.int 0) := A18
  have V_b6 := V_b6.other W18 ne_b6_b17
  have V_b11 := V_b11.other W18 ne_b11_b17
  have V_b14 := V_b14.other W18 ne_b14_b17
  have Zs := Nat.le_trans Zs (Keep.of_wr W18).1
  have N18 := Fr.snoc X18 N16 g_b17
  refine Gol.dup X18 hx hby at_176 177 rfl rfl ?_
  refine Gol.iconst X18 hx hby at_177 178 rfl (z := (1 : Int32)) rfl ?_
  refine Gol.iload X18 hx hby at_178 180 rfl rfl ?_
  refine Gol.iastore X18 hx hby hZ e18 V_b17 at_180 181 rfl ⟨by decide, by decide⟩ 1 rfl (Nat.le_of_ble_eq_true rfl) ?_
  intro T19 h19 X19 e19 W19 A19
  have V_b17 : Arv Z h19 b17 k17 .int (2 : Int32) [(.int ta), (.int tb)] (.int 0) := A19
  have V_b6 := V_b6.other W19 ne_b6_b17
  have V_b11 := V_b11.other W19 ne_b11_b17
  have V_b14 := V_b14.other W19 ne_b14_b17
  have Zs := Nat.le_trans Zs (Keep.of_wr W19).1
  have N19 := Fr.snoc X19 N18 g_b17
  refine Gol.astore X19 hx hby at_181 183 rfl rfl (l' := #[vi p0, vi p1, vi p2, vi p3, vj q4, ss, vi p5, vi na, vi nb, vi ta, vi tb, vi ba, vi bb, vi sw, vi rv, vi cz, vi cy, vr b6, vr b11, vr b14, vr b17, uu, uu, uu, uu, uu, uu, uu, uu, uu, uu, uu, uu, uu, uu]) rfl ?_
  refine Gol.iconst X19 hx hby at_183 184 rfl (z := (2 : Int32)) rfl ?_
  refine Gol.newarr X19 hx hby hZ (w 5 _ rfl) e19 2 at_184 186 rfl (by decide) (by decide) (by decide) (by decide) (by decide) ?_
  intro T20 h20 k20 b20 g20 X20 e20 E20 A20
  have lo_b6_b20 : b6 < b20 := Nat.lt_of_lt_of_le V_b6.lt (Nat.le_of_eq g20.symm)
  have ne_b6_b20 : b6 ≠ b20 := Nat.ne_of_lt lo_b6_b20
  have lo_b11_b20 : b11 < b20 := Nat.lt_of_lt_of_le V_b11.lt (Nat.le_of_eq g20.symm)
  have ne_b11_b20 : b11 ≠ b20 := Nat.ne_of_lt lo_b11_b20
  have lo_b14_b20 : b14 < b20 := Nat.lt_of_lt_of_le V_b14.lt (Nat.le_of_eq g20.symm)
  have ne_b14_b20 : b14 ≠ b20 := Nat.ne_of_lt lo_b14_b20
  have lo_b17_b20 : b17 < b20 := Nat.lt_of_lt_of_le V_b17.lt (Nat.le_of_eq g20.symm)
  have ne_b17_b20 : b17 ≠ b20 := Nat.ne_of_lt lo_b17_b20
  have g_b20 : n0 ≤ b20 := Nat.le_trans Zs (Nat.le_of_eq g20.symm)
  have V_b6 := V_b6.ext E20
  have V_b11 := V_b11.ext E20
  have V_b14 := V_b14.ext E20
  have V_b17 := V_b17.ext E20
  have Zs := Nat.le_trans Zs E20.1
  have V_b20 : Arv Z h20 b20 k20 .int (2 : Int32) [(.int 0), (.int 0)] (.int 0) := A20.pad (pad_rep [] (.int 0) 2)
  refine Gol.dup X20 hx hby at_186 187 rfl rfl ?_
  refine Gol.iconst X20 hx hby at_187 188 rfl (z := (0 : Int32)) rfl ?_
  refine Gol.iconst X20 hx hby at_188 189 rfl (z := (0 : Int32)) rfl ?_
  refine Gol.iastore X20 hx hby hZ e20 V_b20 at_189 190 rfl ⟨by decide, by decide⟩ 0 rfl (Nat.le_of_ble_eq_true rfl) ?_
  intro T21 h21 X21 e21 W21 A21
  have V_b20 : Arv Z h21 b20 k20 .int (2 : Int32) [(.int 0), (.int 0)] (.int 0) := A21
  have V_b6 := V_b6.other W21 ne_b6_b20
  have V_b11 := V_b11.other W21 ne_b11_b20
  have V_b14 := V_b14.other W21 ne_b14_b20
  have V_b17 := V_b17.other W21 ne_b17_b20
  have Zs := Nat.le_trans Zs (Keep.of_wr W21).1
  have N21 := Fr.snoc X21 N19 g_b20
  refine Gol.dup X21 hx hby at_190 191 rfl rfl ?_
  refine Gol.iconst X21 hx hby at_191 192 rfl (z := (1 : Int32)) rfl ?_
  refine Gol.iconst X21 hx hby at_192 193 rfl (z := (1 : Int32)) rfl ?_
  refine Gol.iastore X21 hx hby hZ e21 V_b20 at_193 194 rfl ⟨by decide, by decide⟩ 1 rfl (Nat.le_of_ble_eq_true rfl) ?_
  intro T22 h22 X22 e22 W22 A22
  have V_b20 : Arv Z h22 b20 k20 .int (2 : Int32) [(.int 0), (.int 1)] (.int 0) := A22
  have V_b6 := V_b6.other W22 ne_b6_b20
  have V_b11 := V_b11.other W22 ne_b11_b20
  have V_b14 := V_b14.other W22 ne_b14_b20
  have V_b17 := V_b17.other W22 ne_b17_b20
  have Zs := Nat.le_trans Zs (Keep.of_wr W22).1
  have N22 := Fr.snoc X22 N21 g_b20
  refine Gol.astore X22 hx hby at_194 196 rfl rfl (l' := #[vi p0, vi p1, vi p2, vi p3, vj q4, ss, vi p5, vi na, vi nb, vi ta, vi tb, vi ba, vi bb, vi sw, vi rv, vi cz, vi cy, vr b6, vr b11, vr b14, vr b17, vr b20, uu, uu, uu, uu, uu, uu, uu, uu, uu, uu, uu, uu, uu]) rfl ?_
  refine Gol.iconst X22 hx hby at_196 197 rfl (z := (0 : Int32)) rfl ?_
  refine Gol.istore X22 hx hby at_197 199 rfl (l' := #[vi p0, vi p1, vi p2, vi p3, vj q4, ss, vi p5, vi na, vi nb, vi ta, vi tb, vi ba, vi bb, vi sw, vi rv, vi cz, vi cy, vr b6, vr b11, vr b14, vr b17, vr b20, vi 0, uu, uu, uu, uu, uu, uu, uu, uu, uu, uu, uu, uu]) rfl ?_
  refine Gol.mrg X22 (fun lo h' (x : Int32 × Int32 × Int32) => Fr n0 lo ∧ Keep h22 h' [b20] ∧ (Vv Z h' b20 .int (2 : Int32) [(.int x.2.1), (.int x.2.2)] (.int 0)) ∧ (SL x.1 x.2.1 x.2.2 ba bb)) (fun T' (x : Int32 × Int32 × Int32) => T'.setTop (mkF m 259 #[vi p0, vi p1, vi p2, vi p3, vj q4, ss, vi p5, vi na, vi nb, vi ta, vi tb, vi ba, vi bb, vi sw, vi rv, vi cz, vi cy, vr b6, vr b11, vr b14, vr b17, vr b20, vi x.1, uu, uu, uu, uu, uu, uu, uu, uu, uu, uu, uu, uu] [])) ?_ ?_
  · intro k
    show GolF _ _ _ _ _ _ _ T22 m 199 #[vi p0, vi p1, vi p2, vi p3, vj q4, ss, vi p5, vi na, vi nb, vi ta, vi tb, vi ba, vi bb, vi sw, vi rv, vi cz, vi cy, vr b6, vr b11, vr b14, vr b17, vr b20, vi 0, uu, uu, uu, uu, uu, uu, uu, uu, uu, uu, uu, uu] []
    refine Gol.iload X22 hx hby at_199 201 rfl rfl ?_
    by_cases hc201_24 : (0 : Int32) < ba
    · skip
      refine Gol.ifNo X22 hx hby at_201 204 rfl ((if0 _ _).trans (tlt hc201_24).2.2.2) ?_
      refine Gol.iload X22 hx hby at_204 206 rfl rfl ?_
      by_cases hc206_25 : (0 : Int32) < bb
      · skip
        refine Gol.ifNo X22 hx hby at_206 209 rfl ((if0 _ _).trans (tlt hc206_25).2.2.2) ?_
        refine Gol.iconst X22 hx hby at_209 210 rfl (z := (2 : Int32)) rfl ?_
        refine Gol.istore X22 hx hby at_210 212 rfl (l' := #[vi p0, vi p1, vi p2, vi p3, vj q4, ss, vi p5, vi na, vi nb, vi ta, vi tb, vi ba, vi bb, vi sw, vi rv, vi cz, vi cy, vr b6, vr b11, vr b14, vr b17, vr b20, vi 2, uu, uu, uu, uu, uu, uu, uu, uu, uu, uu, uu, uu]) rfl ?_
        refine Gol.iload X22 hx hby at_212 214 rfl rfl ?_
        by_cases hc214_26 : rv = (0 : Int32)
        · skip
          refine Gol.ifYes X22 hx hby at_214 259 (by decide) ((if0 _ _).trans (teq hc214_26).1) ?_
          exact k _ _ _ (2, 0, 1) X22 e22 ⟨N22, (Keep.refl _ _), ⟨_, V_b20⟩, Or.inr (Or.inr (Or.inr (Or.inl ⟨rfl, rfl, rfl, hc201_24, hc206_25⟩)))⟩
        · skip
          refine Gol.ifNo X22 hx hby at_214 217 rfl ((if0 _ _).trans (feq hc214_26).1) ?_
          refine Gol.aload X22 hx hby at_217 219 rfl rfl rfl ?_
          refine Gol.iconst X22 hx hby at_219 220 rfl (z := (0 : Int32)) rfl ?_
          refine Gol.iconst X22 hx hby at_220 221 rfl (z := (1 : Int32)) rfl ?_
          refine Gol.iastore X22 hx hby hZ e22 V_b20 at_221 222 rfl ⟨by decide, by decide⟩ 0 rfl (Nat.le_of_ble_eq_true rfl) ?_
          intro T27 h27 X27 e27 W27 A27
          have V_b20 : Arv Z h27 b20 k20 .int (2 : Int32) [(.int 1), (.int 1)] (.int 0) := A27
          have N27 := Fr.snoc X27 N22 g_b20
          refine Gol.aload X27 hx hby at_222 224 rfl rfl rfl ?_
          refine Gol.iconst X27 hx hby at_224 225 rfl (z := (1 : Int32)) rfl ?_
          refine Gol.iconst X27 hx hby at_225 226 rfl (z := (0 : Int32)) rfl ?_
          refine Gol.iastore X27 hx hby hZ e27 V_b20 at_226 227 rfl ⟨by decide, by decide⟩ 1 rfl (Nat.le_of_ble_eq_true rfl) ?_
          intro T28 h28 X28 e28 W28 A28
          have V_b20 : Arv Z h28 b20 k20 .int (2 : Int32) [(.int 1), (.int 0)] (.int 0) := A28
          have N28 := Fr.snoc X28 N27 g_b20
          refine Gol.goto X28 hx hby at_227 259 (by decide) ?_
          exact k _ _ _ (2, 1, 0) X28 e28 ⟨N28, ((Keep.of_wr W27).trans (Keep.of_wr W28) (allS (Or.inl (List.mem_of_getElem? (i := 0) rfl)) all0)), ⟨_, V_b20⟩, Or.inr (Or.inr (Or.inr (Or.inr (⟨rfl, rfl, rfl, hc201_24, hc206_25⟩))))⟩
      · skip
        refine Gol.ifYes X22 hx hby at_206 230 (by decide) ((if0 _ _).trans (flt hc206_25).2.2.2) ?_
        refine Gol.iload X22 hx hby at_230 232 rfl rfl ?_
        refine Gol.ifNo X22 hx hby at_232 235 rfl ((if0 _ _).trans (tlt hc201_24).2.2.2) ?_
        refine Gol.iconst X22 hx hby at_235 236 rfl (z := (1 : Int32)) rfl ?_
        refine Gol.istore X22 hx hby at_236 238 rfl (l' := #[vi p0, vi p1, vi p2, vi p3, vj q4, ss, vi p5, vi na, vi nb, vi ta, vi tb, vi ba, vi bb, vi sw, vi rv, vi cz, vi cy, vr b6, vr b11, vr b14, vr b17, vr b20, vi 1, uu, uu, uu, uu, uu, uu, uu, uu, uu, uu, uu, uu]) rfl ?_
        refine Gol.goto X22 hx hby at_238 259 (by decide) ?_
        exact k _ _ _ (1, 0, 1) X22 e22 ⟨N22, (Keep.refl _ _), ⟨_, V_b20⟩, Or.inr (Or.inl ⟨rfl, rfl, rfl, hc201_24, hc206_25⟩)⟩
    · skip
      refine Gol.ifYes X22 hx hby at_201 230 (by decide) ((if0 _ _).trans (flt hc201_24).2.2.2) ?_
      refine Gol.iload X22 hx hby at_230 232 rfl rfl ?_
      refine Gol.ifYes X22 hx hby at_232 241 (by decide) ((if0 _ _).trans (flt hc201_24).2.2.2) ?_
      refine Gol.iload X22 hx hby at_241 243 rfl rfl ?_
      by_cases hc243_29 : (0 : Int32) < bb
      · skip
        refine Gol.ifNo X22 hx hby at_243 246 rfl ((if0 _ _).trans (tlt hc243_29).2.2.2) ?_
        refine Gol.iconst X22 hx hby at_246 247 rfl (z := (1 : Int32)) rfl ?_
        refine Gol.istore X22 hx hby at_247 249 rfl (l' := #[vi p0, vi p1, vi p2, vi p3, vj q4, ss, vi p5, vi na, vi nb, vi ta, vi tb, vi ba, vi bb, vi sw, vi rv, vi cz, vi cy, vr b6, vr b11, vr b14, vr b17, vr b20, vi 1, uu, uu, uu, uu, uu, uu, uu, uu, uu, uu, uu, uu]) rfl ?_
        refine Gol.aload X22 hx hby at_249 251 rfl rfl rfl ?_
        refine Gol.iconst X22 hx hby at_251 252 rfl (z := (0 : Int32)) rfl ?_
        refine Gol.iconst X22 hx hby at_252 253 rfl (z := (1 : Int32)) rfl ?_
        refine Gol.iastore X22 hx hby hZ e22 V_b20 at_253 254 rfl ⟨by decide, by decide⟩ 0 rfl (Nat.le_of_ble_eq_true rfl) ?_
        intro T30 h30 X30 e30 W30 A30
        have V_b20 : Arv Z h30 b20 k20 .int (2 : Int32) [(.int 1), (.int 1)] (.int 0) := A30
        have N30 := Fr.snoc X30 N22 g_b20
        refine Gol.aload X30 hx hby at_254 256 rfl rfl rfl ?_
        refine Gol.iconst X30 hx hby at_256 257 rfl (z := (1 : Int32)) rfl ?_
        refine Gol.iconst X30 hx hby at_257 258 rfl (z := (0 : Int32)) rfl ?_
        refine Gol.iastore X30 hx hby hZ e30 V_b20 at_258 259 rfl ⟨by decide, by decide⟩ 1 rfl (Nat.le_of_ble_eq_true rfl) ?_
        intro T31 h31 X31 e31 W31 A31
        have V_b20 : Arv Z h31 b20 k20 .int (2 : Int32) [(.int 1), (.int 0)] (.int 0) := A31
        have N31 := Fr.snoc X31 N30 g_b20
        exact k _ _ _ (1, 1, 0) X31 e31 ⟨N31, ((Keep.of_wr W30).trans (Keep.of_wr W31) (allS (Or.inl (List.mem_of_getElem? (i := 0) rfl)) all0)), ⟨_, V_b20⟩, Or.inr (Or.inr (Or.inl ⟨rfl, rfl, rfl, hc201_24, hc243_29⟩))⟩
      · skip
        refine Gol.ifYes X22 hx hby at_243 259 (by decide) ((if0 _ _).trans (flt hc243_29).2.2.2) ?_
        exact k _ _ _ (0, 0, 1) X22 e22 ⟨N22, (Keep.refl _ _), ⟨_, V_b20⟩, Or.inl ⟨rfl, rfl, rfl, hc201_24, hc243_29⟩⟩
  intro T23 L23 h23 x23 X23 e23 hB23
  obtain ⟨sc, aa, ab⟩ := x23
  obtain ⟨N23, Kq23, Vsd, hSL⟩ := hB23
  have V_b6 := V_b6.keep Kq23 (ninS ne_b6_b20 nin0)
  have V_b11 := V_b11.keep Kq23 (ninS ne_b11_b20 nin0)
  have V_b14 := V_b14.keep Kq23 (ninS ne_b14_b20 nin0)
  have V_b17 := V_b17.keep Kq23 (ninS ne_b17_b20 nin0)
  have Zs := Nat.le_trans Zs Kq23.1
  have Vsd : Vv Z h23 b20 .int (2 : Int32) [(.int aa), (.int ab)] (.int 0) := Vsd
  have hSL : SL sc aa ab ba bb := hSL
  obtain ⟨k23_sd, V_b20⟩ := Vsd
  show GolF _ _ _ _ _ _ _ T23 m 259 #[vi p0, vi p1, vi p2, vi p3, vj q4, ss, vi p5, vi na, vi nb, vi ta, vi tb, vi ba, vi bb, vi sw, vi rv, vi cz, vi cy, vr b6, vr b11, vr b14, vr b17, vr b20, vi sc, uu, uu, uu, uu, uu, uu, uu, uu, uu, uu, uu, uu] []
  refine Gol.iload X23 hx hby at_259 261 rfl rfl ?_
  refine Gol.bipush X23 hx hby at_261 263 rfl (z := (64 : Int32)) rfl ?_
  refine Gol.iand X23 hx hby at_263 264 rfl rfl ?_
  refine Gol.dia (S' := (T23.setTop (mkF m 273 #[vi p0, vi p1, vi p2, vi p3, vj q4, ss, vi p5, vi na, vi nb, vi ta, vi tb, vi ba, vi bb, vi sw, vi rv, vi cz, vi cy, vr b6, vr b11, vr b14, vr b17, vr b20, vi sc, uu, uu, uu, uu, uu, uu, uu, uu, uu, uu, uu, uu] [(.int (if (p5 &&& (64 : Int32)) = (0 : Int32) then (100 : Int32) else (1 : Int32)))]))) ?_ ?_
  · intro k
    by_cases hd264_32 : (p5 &&& (64 : Int32)) = (0 : Int32)
    · rw [if_pos hd264_32] at k
      refine Gol.ifYes X23 hx hby at_264 271 (by decide) ((if0 _ _).trans (teq hd264_32).1) ?_
      refine Gol.bipush X23 hx hby at_271 273 rfl (z := (100 : Int32)) rfl ?_
      exact k
    · rw [if_neg hd264_32] at k
      refine Gol.ifNo X23 hx hby at_264 267 rfl ((if0 _ _).trans (feq hd264_32).1) ?_
      refine Gol.iconst X23 hx hby at_267 268 rfl (z := (1 : Int32)) rfl ?_
      refine Gol.goto X23 hx hby at_268 273 (by decide) ?_
      exact k
  show GolF _ _ _ _ _ _ _ T23 m 273 #[vi p0, vi p1, vi p2, vi p3, vj q4, ss, vi p5, vi na, vi nb, vi ta, vi tb, vi ba, vi bb, vi sw, vi rv, vi cz, vi cy, vr b6, vr b11, vr b14, vr b17, vr b20, vi sc, uu, uu, uu, uu, uu, uu, uu, uu, uu, uu, uu, uu] [(.int (if (p5 &&& (64 : Int32)) = (0 : Int32) then (100 : Int32) else (1 : Int32)))]
  refine Gol.istore X23 hx hby at_273 275 rfl (l' := #[vi p0, vi p1, vi p2, vi p3, vj q4, ss, vi p5, vi na, vi nb, vi ta, vi tb, vi ba, vi bb, vi sw, vi rv, vi cz, vi cy, vr b6, vr b11, vr b14, vr b17, vr b20, vi sc, vi (if (p5 &&& (64 : Int32)) = (0 : Int32) then (100 : Int32) else (1 : Int32)), uu, uu, uu, uu, uu, uu, uu, uu, uu, uu, uu]) rfl ?_
  generalize hN_pq : (if (p5 &&& (64 : Int32)) = (0 : Int32) then (100 : Int32) else (1 : Int32)) = pq
  have hpq : pq = 1 ∨ pq = 100 := by rw [← hN_pq]; exact own_ppi
  refine Gol.newO X23 hx hby hZ hown (w 8 _ rfl) (w 9 _ rfl) (w 10 _ rfl) e23 at_275 278 rfl (by decide) (by decide) ?_
  intro T33 h33 b33 g33 X33 e33 E33 A33 D33
  have lo_b6_b33 : b6 < b33 := Nat.lt_of_lt_of_le V_b6.lt (Nat.le_of_eq g33.symm)
  have ne_b6_b33 : b6 ≠ b33 := Nat.ne_of_lt lo_b6_b33
  have lo_b11_b33 : b11 < b33 := Nat.lt_of_lt_of_le V_b11.lt (Nat.le_of_eq g33.symm)
  have ne_b11_b33 : b11 ≠ b33 := Nat.ne_of_lt lo_b11_b33
  have lo_b14_b33 : b14 < b33 := Nat.lt_of_lt_of_le V_b14.lt (Nat.le_of_eq g33.symm)
  have ne_b14_b33 : b14 ≠ b33 := Nat.ne_of_lt lo_b14_b33
  have lo_b17_b33 : b17 < b33 := Nat.lt_of_lt_of_le V_b17.lt (Nat.le_of_eq g33.symm)
  have ne_b17_b33 : b17 ≠ b33 := Nat.ne_of_lt lo_b17_b33
  have lo_b20_b33 : b20 < b33 := Nat.lt_of_lt_of_le V_b20.lt (Nat.le_of_eq g33.symm)
  have ne_b20_b33 : b20 ≠ b33 := Nat.ne_of_lt lo_b20_b33
  have g_b33 : n0 ≤ b33 := Nat.le_trans Zs (Nat.le_of_eq g33.symm)
  have V_b6 := V_b6.ext E33
  have V_b11 := V_b11.ext E33
  have V_b14 := V_b14.ext E33
  have V_b17 := V_b17.ext E33
  have V_b20 := V_b20.ext E33
  have Zs := Nat.le_trans Zs E33.1
  have E_b33 := A33
  have B_b33 : FL Z h33 b33 [.null, .null, .null, .null, .null, (.int 0), (.int 0), .null, .null, .null, .null, (.int 0), .null, .null, .null, .null, .null, .null, .null, .null, .null, .null, (.int 0), (.long 0), (.int 0), (.int 0), (.int 0), (.int 0)] := own_FL0 hw D33
  refine Gol.dup X33 hx hby at_278 279 rfl rfl ?_
  refine Gol.aload X33 hx hby at_279 281 rfl rfl rfl ?_
  refine Gol.aload X33 hx hby at_281 283 rfl rfl rfl ?_
  refine Gol.aload X33 hx hby at_283 285 rfl rfl rfl ?_
  refine Gol.aload X33 hx hby at_285 287 rfl rfl rfl ?_
  refine Gol.aload X33 hx hby at_287 289 rfl rfl rfl ?_
  refine Gol.iload X33 hx hby at_289 291 rfl rfl ?_
  refine Gol.callI X33 hx hby hZ hown 1 [(.ref b6), (.ref b11), (.ref b14), (.ref b17), (.ref b20), (.int pq)] (a := b33) (w 11 _ rfl) (w 12 _ rfl) (w 10 _ rfl) rfl (w 13 _ rfl) rfl (by decide) (rmIni l Z a0 hw [] b33 b6 b11 b14 b17 b20 pq ((1 : Int64) <<< (cz.toInt64 &&& 63)) ((1 : Int64) <<< (cy.toInt64 &&& 63)) (.int (sel cy sb (sel cz sa 0))) (.int (sel cy (sel cz 0 sa) sb)) (.int na) (.int nb) cz cy h33 n0 Zs B_b33 E_b33 ⟨_, V_b6⟩ ⟨_, V_b11⟩ ⟨_, V_b14⟩ lo_b6_b14 lo_b14_b17 lo_b17_b20 lo_b20_b33 ne_b6_b33 ne_b11_b33 ne_b14_b33 g_b6 g_b33 (own_pw hcz).1 (own_pw hcz).2.1 (own_pw hcz).2.2.1 (own_pw hcz).2.2.2 (own_pw hcy).1 (own_pw hcy).2.1 (own_pw hcy).2.2.1 (own_pw hcy).2.2.2) (by decide) (by decide) e33 (by rw [hml]; rfl) (rest := [(.ref b33)]) (Nat.le_of_eq rfl) (by decide) (by decide) (lenOf pd_12 rfl) rfl at_291 294 rfl ?_
  intro T34 v34 L34 X34 hQ34
  obtain ⟨rfl, Nq34, Kq34, A, aq0, aq1, aq2, aq3, aq4, D, G, S22, E_A0, B_A0, ⟨kA5, V_A5⟩, ⟨kA6, V_A6⟩, ⟨kA7, V_A7⟩, ⟨kA8, V_A8⟩, ⟨kA9, V_A9⟩, ⟨kA10, V_A10⟩, ⟨kA11, V_A11⟩, ⟨kA12, V_A12⟩, ⟨kA13, V_A13⟩, ⟨kA14, V_A14⟩, ⟨kA15, V_A15⟩, ⟨kA16, V_A16⟩, ⟨kA17, V_A17⟩, ⟨kA18, V_A18⟩⟩ := hQ34
  have N34 := Fr.app N23 Nq34
  have V_b6 := V_b6.keep Kq34 (ninS ne_b6_b33 nin0)
  have V_b14 := V_b14.keep Kq34 (ninS ne_b14_b33 nin0)
  have V_b17 := V_b17.keep Kq34 (ninS ne_b17_b33 nin0)
  have V_b20 := V_b20.keep Kq34 (ninS ne_b20_b33 nin0)
  have Zs := Nat.le_trans Zs Kq34.1
  show GolF _ _ _ _ _ _ _ T34 m 294 #[vi p0, vi p1, vi p2, vi p3, vj q4, ss, vi p5, vi na, vi nb, vi ta, vi tb, vi ba, vi bb, vi sw, vi rv, vi cz, vi cy, vr b6, vr b11, vr b14, vr b17, vr b20, vi sc, vi pq, uu, uu, uu, uu, uu, uu, uu, uu, uu, uu, uu] [(.ref b33)]
  have V_A1 : Arv Z T34.heap (A 1) k6 .int (2 : Int32) [(.int (sel cy sb (sel cz sa 0))), (.int (sel cy (sel cz 0 sa) sb))] (.int 0) := by rw [aq1]; exact V_b6
  have V_A2 : Arv Z T34.heap (A 2) k14 .int (2 : Int32) [(.int na), (.int nb)] (.int 0) := by rw [aq2]; exact V_b14
  have V_A3 : Arv Z T34.heap (A 3) k17 .int (2 : Int32) [(.int ta), (.int tb)] (.int 0) := by rw [aq3]; exact V_b17
  have V_A4 : Arv Z T34.heap (A 4) k23_sd .int (2 : Int32) [(.int aa), (.int ab)] (.int 0) := by rw [aq4]; exact V_b20
  rw [← aq0, ← aq3]
  show GolF _ _ _ _ _ _ _ T34 m 294 #[vi p0, vi p1, vi p2, vi p3, vj q4, ss, vi p5, vi na, vi nb, vi ta, vi tb, vi ba, vi bb, vi sw, vi rv, vi cz, vi cy, vr b6, vr b11, vr b14, vr (A 3), vr b20, vi sc, vi pq, uu, uu, uu, uu, uu, uu, uu, uu, uu, uu, uu] [(.ref (A 0))]
  refine Gol.astore X34 hx hby at_294 296 rfl rfl (l' := #[vi p0, vi p1, vi p2, vi p3, vj q4, ss, vi p5, vi na, vi nb, vi ta, vi tb, vi ba, vi bb, vi sw, vi rv, vi cz, vi cy, vr b6, vr b11, vr b14, vr (A 3), vr b20, vi sc, vi pq, vr (A 0), uu, uu, uu, uu, uu, uu, uu, uu, uu, uu]) rfl ?_
  refine Gol.aload X34 hx hby at_296 298 rfl rfl rfl ?_
  refine Gol.iload X34 hx hby at_298 300 rfl rfl ?_
  refine Gol.ldc2Long X34 hx hby hZ hown at_300 303 rfl (w 96 _ rfl) ?_
  refine Gol.ldc2Double X34 hx hby hZ hown at_303 306 rfl (w 97 _ rfl) ?_
  obtain ⟨haa, hab', hne⟩ := own_sl hSL
  have hsab := own_s01 hcc (Int.le_trans hba0 hsa) (Int.le_trans hbb0 hsb)
  refine Gol.callV X34 hx hby hZ hown 0 [(.int sc), (.long 3), (.double 4746794007244308480)] (a := (A 0)) (w 98 _ rfl) (w 99 _ rfl) (notFace_of_selects (args := #[]) (mvT hZ (w 101 _ rfl))) (w 101 _ rfl) (w 100 _ rfl) (w 10 _ rfl) (w 102 _ rfl) (by decide) E_A0 (rmSol l Z a0 hw [] sc A pq (sel cy sb (sel cz sa 0)) (sel cy (sel cz 0 sa) sb) na nb ta tb aa ab cz cy T34.heap n0 Zs D G B_A0 E_A0 ⟨_, V_A1⟩ ⟨_, V_A2⟩ ⟨_, V_A3⟩ ⟨_, V_A4⟩ ⟨_, V_A5⟩ ⟨_, V_A6⟩ ⟨_, V_A7⟩ ⟨_, V_A8⟩ ⟨_, V_A9⟩ ⟨_, V_A10⟩ ⟨_, V_A11⟩ ⟨_, V_A12⟩ ⟨_, V_A13⟩ ⟨_, V_A14⟩ ⟨_, V_A15⟩ ⟨_, V_A16⟩ ⟨_, V_A17⟩ ⟨_, V_A18⟩ haa hab' hne hcz hcy (own_ccN hcc) hsab.1 hsab.2 (own_hsz hcc hN_ba hN_bb hsa hsb) (own_sc hSL (own_sh0 hna hta hN_ba) (own_sh1 hnb htb hN_bb)) hpq) (by decide) (by decide) rfl (by rw [hml]; rfl) (rest := []) (Nat.le_of_eq rfl) (by decide) (by decide) (lenOf pd_13 rfl) rfl at_306 309 rfl ?_
  intro T35 v35 L35 X35 hQ35
  obtain ⟨⟨zr35, rfl⟩, Nq35, Kq35, ⟨fa, fb, fc, fd, fe, ff, fg, B_A0⟩, ga, gb, ⟨kz8, V_A8⟩, ⟨kz9, V_A9⟩, hSR⟩ := hQ35
  have N35 := Fr.app N34 Nq35
  have E_A0 := E_A0.keep Kq35
  have V_A2 := V_A2.keep Kq35 (nnA D 2 [0, 7, 8, 9, 11, 12, 13, 14, 15, 16, 17, 18] rfl)
  have V_A3 := V_A3.keep Kq35 (nnA D 3 [0, 7, 8, 9, 11, 12, 13, 14, 15, 16, 17, 18] rfl)
  have Zs := Nat.le_trans Zs Kq35.1
  have S22 := fun (i : Nat) q => Nat.lt_of_lt_of_le (S22 i q) Kq35.1
  show GolF _ _ _ _ _ _ _ T35 m 309 #[vi p0, vi p1, vi p2, vi p3, vj q4, ss, vi p5, vi na, vi nb, vi ta, vi tb, vi ba, vi bb, vi sw, vi rv, vi cz, vi cy, vr b6, vr b11, vr b14, vr (A 3), vr b20, vi sc, vi pq, vr (A 0), uu, uu, uu, uu, uu, uu, uu, uu, uu, uu] [(.double zr35)]
  have jv36 : ∀ t, Steps p.tables ev below (T35.setTop (mkF m 310 #[vi p0, vi p1, vi p2, vi p3, vj q4, ss, vi p5, vi na, vi nb, vi ta, vi tb, vi ba, vi bb, vi sw, vi rv, vi cz, vi cy, vr b6, vr b11, vr b14, vr (A 3), vr b20, vi sc, vi pq, vr (A 0), uu, uu, uu, uu, uu, uu, uu, uu, uu, uu] [])) t → Steps p.tables ev below (T35.setTop (mkF m 309 #[vi p0, vi p1, vi p2, vi p3, vj q4, ss, vi p5, vi na, vi nb, vi ta, vi tb, vi ba, vi bb, vi sw, vi rv, vi cz, vi cy, vr b6, vr b11, vr b14, vr (A 3), vr b20, vi sc, vi pq, vr (A 0), uu, uu, uu, uu, uu, uu, uu, uu, uu, uu] [(.double zr35)])) t := by
    intro t k
    jvm_step X35.here [X35.here.top, hx, (hb hby at_309), Value.category]
    exact k
  refine Gol.step jv36 ?_
  refine Gol.iload X35 hx hby at_310 312 rfl rfl ?_
  refine Gol.iconst X35 hx hby at_312 313 rfl (z := (2 : Int32)) rfl ?_
  refine Gol.iushr X35 hx hby at_313 314 rfl rfl ?_
  refine Gol.iconst X35 hx hby at_314 315 rfl (z := (3 : Int32)) rfl ?_
  refine Gol.iand X35 hx hby at_315 316 rfl rfl ?_
  refine Gol.istore X35 hx hby at_316 318 rfl (l' := #[vi p0, vi p1, vi p2, vi p3, vj q4, ss, vi p5, vi na, vi nb, vi ta, vi tb, vi ba, vi bb, vi sw, vi rv, vi cz, vi cy, vr b6, vr b11, vr b14, vr (A 3), vr b20, vi sc, vi pq, vr (A 0), vi ((XT.ushr p5 (2 : Int32)) &&& (3 : Int32)), uu, uu, uu, uu, uu, uu, uu, uu, uu]) rfl ?_
  generalize hN_ma : ((XT.ushr p5 (2 : Int32)) &&& (3 : Int32)) = ma
  refine Gol.iload X35 hx hby at_318 320 rfl rfl ?_
  refine Gol.iconst X35 hx hby at_320 321 rfl (z := (4 : Int32)) rfl ?_
  refine Gol.iushr X35 hx hby at_321 322 rfl rfl ?_
  refine Gol.iconst X35 hx hby at_322 323 rfl (z := (3 : Int32)) rfl ?_
  refine Gol.iand X35 hx hby at_323 324 rfl rfl ?_
  refine Gol.istore X35 hx hby at_324 326 rfl (l' := #[vi p0, vi p1, vi p2, vi p3, vj q4, ss, vi p5, vi na, vi nb, vi ta, vi tb, vi ba, vi bb, vi sw, vi rv, vi cz, vi cy, vr b6, vr b11, vr b14, vr (A 3), vr b20, vi sc, vi pq, vr (A 0), vi ma, vi ((XT.ushr p5 (4 : Int32)) &&& (3 : Int32)), uu, uu, uu, uu, uu, uu, uu, uu]) rfl ?_
  generalize hN_mb : ((XT.ushr p5 (4 : Int32)) &&& (3 : Int32)) = mb
  refine Gol.mrg X35 (fun lo h' (x : Int32) => Fr n0 lo ∧ Keep T35.heap h' [(A 3)] ∧ (Vv Z h' (A 3) .int (2 : Int32) [(.int x), (.int tb)] (.int 0))) (fun T' (x : Int32) => T'.setTop (mkF m 352 #[vi p0, vi p1, vi p2, vi p3, vj q4, ss, vi p5, vi na, vi nb, vi ta, vi tb, vi ba, vi bb, vi sw, vi rv, vi cz, vi cy, vr b6, vr b11, vr b14, vr (A 3), vr b20, vi sc, vi pq, vr (A 0), vi ma, vi mb, uu, uu, uu, uu, uu, uu, uu, uu] [])) ?_ ?_
  · intro k
    show GolF _ _ _ _ _ _ _ T35 m 326 #[vi p0, vi p1, vi p2, vi p3, vj q4, ss, vi p5, vi na, vi nb, vi ta, vi tb, vi ba, vi bb, vi sw, vi rv, vi cz, vi cy, vr b6, vr b11, vr b14, vr (A 3), vr b20, vi sc, vi pq, vr (A 0), vi ma, vi mb, uu, uu, uu, uu, uu, uu, uu, uu] []
    refine Gol.iload X35 hx hby at_326 328 rfl rfl ?_
    refine Gol.iconst X35 hx hby at_328 329 rfl (z := (1 : Int32)) rfl ?_
    by_cases hc329_38 : ma = (1 : Int32)
    · skip
      refine Gol.icmpNo X35 hx hby at_329 332 rfl (teq hc329_38).2 ?_
      refine Gol.aload X35 hx hby at_332 334 rfl rfl rfl ?_
      refine Gol.iconst X35 hx hby at_334 335 rfl (z := (0 : Int32)) rfl ?_
      refine Gol.iload X35 hx hby at_335 337 rfl rfl ?_
      refine Gol.iastore X35 hx hby hZ rfl V_A3 at_337 338 rfl ⟨by decide, by decide⟩ 0 rfl (Nat.le_of_ble_eq_true rfl) ?_
      intro T39 h39 X39 e39 W39 A39
      have V_A3 : Arv Z h39 (A 3) k17 .int (2 : Int32) [(.int na), (.int tb)] (.int 0) := A39
      have N39 := Fr.snoc X39 N35 (G 3 rfl)
      refine Gol.goto X39 hx hby at_338 352 (by decide) ?_
      exact k _ _ _ na X39 e39 ⟨N39, (Keep.of_wr W39), ⟨_, V_A3⟩⟩
    · skip
      refine Gol.icmpYes X35 hx hby at_329 341 (by decide) (feq hc329_38).2 ?_
      refine Gol.iload X35 hx hby at_341 343 rfl rfl ?_
      refine Gol.iconst X35 hx hby at_343 344 rfl (z := (2 : Int32)) rfl ?_
      by_cases hc344_40 : ma = (2 : Int32)
      · skip
        refine Gol.icmpNo X35 hx hby at_344 347 rfl (teq hc344_40).2 ?_
        refine Gol.aload X35 hx hby at_347 349 rfl rfl rfl ?_
        refine Gol.iconst X35 hx hby at_349 350 rfl (z := (0 : Int32)) rfl ?_
        refine Gol.iconst X35 hx hby at_350 351 rfl (z := (0 : Int32)) rfl ?_
        refine Gol.iastore X35 hx hby hZ rfl V_A3 at_351 352 rfl ⟨by decide, by decide⟩ 0 rfl (Nat.le_of_ble_eq_true rfl) ?_
        intro T41 h41 X41 e41 W41 A41
        have V_A3 : Arv Z h41 (A 3) k17 .int (2 : Int32) [(.int 0), (.int tb)] (.int 0) := A41
        have N41 := Fr.snoc X41 N35 (G 3 rfl)
        exact k _ _ _ 0 X41 e41 ⟨N41, (Keep.of_wr W41), ⟨_, V_A3⟩⟩
      · skip
        refine Gol.icmpYes X35 hx hby at_344 352 (by decide) (feq hc344_40).2 ?_
        exact k _ _ _ ta X35 rfl ⟨N35, (Keep.refl _ _), ⟨_, V_A3⟩⟩
  intro T37 L37 h37 td X37 e37 hB37
  obtain ⟨N37, Kq37, V3⟩ := hB37
  have E_A0 := E_A0.keep Kq37
  have B_A0 := B_A0.keep Kq37 (nnA D 0 [3] rfl)
  have V_A2 := V_A2.keep Kq37 (nnA D 2 [3] rfl)
  have V_A8 := V_A8.keep Kq37 (nnA D 8 [3] rfl)
  have V_A9 := V_A9.keep Kq37 (nnA D 9 [3] rfl)
  have Zs := Nat.le_trans Zs Kq37.1
  have S22 := fun (i : Nat) q => Nat.lt_of_lt_of_le (S22 i q) Kq37.1
  have V3 : Vv Z h37 (A 3) .int (2 : Int32) [(.int td), (.int tb)] (.int 0) := V3
  obtain ⟨k37_A3, V_A3⟩ := V3
  show GolF _ _ _ _ _ _ _ T37 m 352 #[vi p0, vi p1, vi p2, vi p3, vj q4, ss, vi p5, vi na, vi nb, vi ta, vi tb, vi ba, vi bb, vi sw, vi rv, vi cz, vi cy, vr b6, vr b11, vr b14, vr (A 3), vr b20, vi sc, vi pq, vr (A 0), vi ma, vi mb, uu, uu, uu, uu, uu, uu, uu, uu] []
  refine Gol.mrg X37 (fun lo h' (x : Int32) => Fr n0 lo ∧ Keep h37 h' [(A 3)] ∧ (Vv Z h' (A 3) .int (2 : Int32) [(.int td), (.int x)] (.int 0))) (fun T' (x : Int32) => T'.setTop (mkF m 378 #[vi p0, vi p1, vi p2, vi p3, vj q4, ss, vi p5, vi na, vi nb, vi ta, vi tb, vi ba, vi bb, vi sw, vi rv, vi cz, vi cy, vr b6, vr b11, vr b14, vr (A 3), vr b20, vi sc, vi pq, vr (A 0), vi ma, vi mb, uu, uu, uu, uu, uu, uu, uu, uu] [])) ?_ ?_
  · intro k
    show GolF _ _ _ _ _ _ _ T37 m 352 #[vi p0, vi p1, vi p2, vi p3, vj q4, ss, vi p5, vi na, vi nb, vi ta, vi tb, vi ba, vi bb, vi sw, vi rv, vi cz, vi cy, vr b6, vr b11, vr b14, vr (A 3), vr b20, vi sc, vi pq, vr (A 0), vi ma, vi mb, uu, uu, uu, uu, uu, uu, uu, uu] []
    refine Gol.iload X37 hx hby at_352 354 rfl rfl ?_
    refine Gol.iconst X37 hx hby at_354 355 rfl (z := (1 : Int32)) rfl ?_
    by_cases hc355_43 : mb = (1 : Int32)
    · skip
      refine Gol.icmpNo X37 hx hby at_355 358 rfl (teq hc355_43).2 ?_
      refine Gol.aload X37 hx hby at_358 360 rfl rfl rfl ?_
      refine Gol.iconst X37 hx hby at_360 361 rfl (z := (1 : Int32)) rfl ?_
      refine Gol.iload X37 hx hby at_361 363 rfl rfl ?_
      refine Gol.iastore X37 hx hby hZ e37 V_A3 at_363 364 rfl ⟨by decide, by decide⟩ 1 rfl (Nat.le_of_ble_eq_true rfl) ?_
      intro T44 h44 X44 e44 W44 A44
      have V_A3 : Arv Z h44 (A 3) k37_A3 .int (2 : Int32) [(.int td), (.int nb)] (.int 0) := A44
      have N44 := Fr.snoc X44 N37 (G 3 rfl)
      refine Gol.goto X44 hx hby at_364 378 (by decide) ?_
      exact k _ _ _ nb X44 e44 ⟨N44, (Keep.of_wr W44), ⟨_, V_A3⟩⟩
    · skip
      refine Gol.icmpYes X37 hx hby at_355 367 (by decide) (feq hc355_43).2 ?_
      refine Gol.iload X37 hx hby at_367 369 rfl rfl ?_
      refine Gol.iconst X37 hx hby at_369 370 rfl (z := (2 : Int32)) rfl ?_
      by_cases hc370_45 : mb = (2 : Int32)
      · skip
        refine Gol.icmpNo X37 hx hby at_370 373 rfl (teq hc370_45).2 ?_
        refine Gol.aload X37 hx hby at_373 375 rfl rfl rfl ?_
        refine Gol.iconst X37 hx hby at_375 376 rfl (z := (1 : Int32)) rfl ?_
        refine Gol.iconst X37 hx hby at_376 377 rfl (z := (0 : Int32)) rfl ?_
        refine Gol.iastore X37 hx hby hZ e37 V_A3 at_377 378 rfl ⟨by decide, by decide⟩ 1 rfl (Nat.le_of_ble_eq_true rfl) ?_
        intro T46 h46 X46 e46 W46 A46
        have V_A3 : Arv Z h46 (A 3) k37_A3 .int (2 : Int32) [(.int td), (.int 0)] (.int 0) := A46
        have N46 := Fr.snoc X46 N37 (G 3 rfl)
        exact k _ _ _ 0 X46 e46 ⟨N46, (Keep.of_wr W46), ⟨_, V_A3⟩⟩
      · skip
        refine Gol.icmpYes X37 hx hby at_370 378 (by decide) (feq hc370_45).2 ?_
        exact k _ _ _ tb X37 e37 ⟨N37, (Keep.refl _ _), ⟨_, V_A3⟩⟩
  intro T42 L42 h42 te X42 e42 hB42
  obtain ⟨N42, Kq42, V3⟩ := hB42
  have E_A0 := E_A0.keep Kq42
  have B_A0 := B_A0.keep Kq42 (nnA D 0 [3] rfl)
  have V_A2 := V_A2.keep Kq42 (nnA D 2 [3] rfl)
  have V_A8 := V_A8.keep Kq42 (nnA D 8 [3] rfl)
  have V_A9 := V_A9.keep Kq42 (nnA D 9 [3] rfl)
  have Zs := Nat.le_trans Zs Kq42.1
  have S22 := fun (i : Nat) q => Nat.lt_of_lt_of_le (S22 i q) Kq42.1
  have V3 : Vv Z h42 (A 3) .int (2 : Int32) [(.int td), (.int te)] (.int 0) := V3
  obtain ⟨k42_A3, V_A3⟩ := V3
  show GolF _ _ _ _ _ _ _ T42 m 378 #[vi p0, vi p1, vi p2, vi p3, vj q4, ss, vi p5, vi na, vi nb, vi ta, vi tb, vi ba, vi bb, vi sw, vi rv, vi cz, vi cy, vr b6, vr b11, vr b14, vr (A 3), vr b20, vi sc, vi pq, vr (A 0), vi ma, vi mb, uu, uu, uu, uu, uu, uu, uu, uu] []
  refine Gol.mrg X42 (fun lo h' (x : Int32) => Fr n0 lo ∧ Keep h42 h' [] ∧ ((x = 1 ∧ 0 < ba ∧ td < na) ∨ (x = 0 ∧ ¬ (0 < ba ∧ td < na)))) (fun T' (x : Int32) => T'.setTop (mkF m 399 #[vi p0, vi p1, vi p2, vi p3, vj q4, ss, vi p5, vi na, vi nb, vi ta, vi tb, vi ba, vi bb, vi sw, vi rv, vi cz, vi cy, vr b6, vr b11, vr b14, vr (A 3), vr b20, vi sc, vi pq, vr (A 0), vi ma, vi mb, vi x, uu, uu, uu, uu, uu, uu, uu] [])) ?_ ?_
  · intro k
    show GolF _ _ _ _ _ _ _ T42 m 378 #[vi p0, vi p1, vi p2, vi p3, vj q4, ss, vi p5, vi na, vi nb, vi ta, vi tb, vi ba, vi bb, vi sw, vi rv, vi cz, vi cy, vr b6, vr b11, vr b14, vr (A 3), vr b20, vi sc, vi pq, vr (A 0), vi ma, vi mb, uu, uu, uu, uu, uu, uu, uu, uu] []
    refine Gol.iload X42 hx hby at_378 380 rfl rfl ?_
    by_cases hc380_48 : (0 : Int32) < ba
    · skip
      refine Gol.ifNo X42 hx hby at_380 383 rfl ((if0 _ _).trans (tlt hc380_48).2.2.2) ?_
      refine Gol.iload X42 hx hby at_383 385 rfl rfl ?_
      refine Gol.aload X42 hx hby at_385 387 rfl rfl rfl ?_
      refine Gol.iconst X42 hx hby at_387 388 rfl (z := (0 : Int32)) rfl ?_
      refine Gol.iaload X42 hx hby hZ e42 V_A3 at_388 389 rfl ⟨by decide, by decide⟩ (v := td) rfl ?_
      by_cases hc389_49 : td < na
      · skip
        refine Gol.icmpNo X42 hx hby at_389 392 rfl (tlt hc389_49).2.2.2 ?_
        refine Gol.iconst X42 hx hby at_392 393 rfl (z := (1 : Int32)) rfl ?_
        refine Gol.goto X42 hx hby at_393 397 (by decide) ?_
        refine Gol.istore X42 hx hby at_397 399 rfl (l' := #[vi p0, vi p1, vi p2, vi p3, vj q4, ss, vi p5, vi na, vi nb, vi ta, vi tb, vi ba, vi bb, vi sw, vi rv, vi cz, vi cy, vr b6, vr b11, vr b14, vr (A 3), vr b20, vi sc, vi pq, vr (A 0), vi ma, vi mb, vi 1, uu, uu, uu, uu, uu, uu, uu]) rfl ?_
        exact k _ _ _ 1 X42 e42 ⟨N42, (Keep.refl _ _), Or.inl ⟨rfl, hc380_48, hc389_49⟩⟩
      · skip
        refine Gol.icmpYes X42 hx hby at_389 396 (by decide) (flt hc389_49).2.2.2 ?_
        refine Gol.iconst X42 hx hby at_396 397 rfl (z := (0 : Int32)) rfl ?_
        refine Gol.istore X42 hx hby at_397 399 rfl (l' := #[vi p0, vi p1, vi p2, vi p3, vj q4, ss, vi p5, vi na, vi nb, vi ta, vi tb, vi ba, vi bb, vi sw, vi rv, vi cz, vi cy, vr b6, vr b11, vr b14, vr (A 3), vr b20, vi sc, vi pq, vr (A 0), vi ma, vi mb, vi 0, uu, uu, uu, uu, uu, uu, uu]) rfl ?_
        exact k _ _ _ 0 X42 e42 ⟨N42, (Keep.refl _ _), Or.inr ⟨rfl, fun q => hc389_49 q.2⟩⟩
    · skip
      refine Gol.ifYes X42 hx hby at_380 396 (by decide) ((if0 _ _).trans (flt hc380_48).2.2.2) ?_
      refine Gol.iconst X42 hx hby at_396 397 rfl (z := (0 : Int32)) rfl ?_
      refine Gol.istore X42 hx hby at_397 399 rfl (l' := #[vi p0, vi p1, vi p2, vi p3, vj q4, ss, vi p5, vi na, vi nb, vi ta, vi tb, vi ba, vi bb, vi sw, vi rv, vi cz, vi cy, vr b6, vr b11, vr b14, vr (A 3), vr b20, vi sc, vi pq, vr (A 0), vi ma, vi mb, vi 0, uu, uu, uu, uu, uu, uu, uu]) rfl ?_
      exact k _ _ _ 0 X42 e42 ⟨N42, (Keep.refl _ _), Or.inr ⟨rfl, fun q => hc380_48 q.1⟩⟩
  intro T47 L47 h47 ia X47 e47 hB47
  obtain ⟨N47, Kq47, hI0⟩ := hB47
  have E_A0 := E_A0.keep Kq47
  have B_A0 := B_A0.keep Kq47 (nnA D 0 [] rfl)
  have V_A2 := V_A2.keep Kq47 (nnA D 2 [] rfl)
  have V_A8 := V_A8.keep Kq47 (nnA D 8 [] rfl)
  have V_A9 := V_A9.keep Kq47 (nnA D 9 [] rfl)
  have V_A3 := V_A3.keep Kq47 (nnA D 3 [] rfl)
  have Zs := Nat.le_trans Zs Kq47.1
  have S22 := fun (i : Nat) q => Nat.lt_of_lt_of_le (S22 i q) Kq47.1
  have hI0 : (ia = 1 ∧ 0 < ba ∧ td < na) ∨ (ia = 0 ∧ ¬ (0 < ba ∧ td < na)) := hI0
  show GolF _ _ _ _ _ _ _ T47 m 399 #[vi p0, vi p1, vi p2, vi p3, vj q4, ss, vi p5, vi na, vi nb, vi ta, vi tb, vi ba, vi bb, vi sw, vi rv, vi cz, vi cy, vr b6, vr b11, vr b14, vr (A 3), vr b20, vi sc, vi pq, vr (A 0), vi ma, vi mb, vi ia, uu, uu, uu, uu, uu, uu, uu] []
  refine Gol.mrg X47 (fun lo h' (x : Int32) => Fr n0 lo ∧ Keep h47 h' [] ∧ ((x = 1 ∧ 0 < bb ∧ te < nb) ∨ (x = 0 ∧ ¬ (0 < bb ∧ te < nb)))) (fun T' (x : Int32) => T'.setTop (mkF m 420 #[vi p0, vi p1, vi p2, vi p3, vj q4, ss, vi p5, vi na, vi nb, vi ta, vi tb, vi ba, vi bb, vi sw, vi rv, vi cz, vi cy, vr b6, vr b11, vr b14, vr (A 3), vr b20, vi sc, vi pq, vr (A 0), vi ma, vi mb, vi ia, vi x, uu, uu, uu, uu, uu, uu] [])) ?_ ?_
  · intro k
    show GolF _ _ _ _ _ _ _ T47 m 399 #[vi p0, vi p1, vi p2, vi p3, vj q4, ss, vi p5, vi na, vi nb, vi ta, vi tb, vi ba, vi bb, vi sw, vi rv, vi cz, vi cy, vr b6, vr b11, vr b14, vr (A 3), vr b20, vi sc, vi pq, vr (A 0), vi ma, vi mb, vi ia, uu, uu, uu, uu, uu, uu, uu] []
    refine Gol.iload X47 hx hby at_399 401 rfl rfl ?_
    by_cases hc401_51 : (0 : Int32) < bb
    · skip
      refine Gol.ifNo X47 hx hby at_401 404 rfl ((if0 _ _).trans (tlt hc401_51).2.2.2) ?_
      refine Gol.iload X47 hx hby at_404 406 rfl rfl ?_
      refine Gol.aload X47 hx hby at_406 408 rfl rfl rfl ?_
      refine Gol.iconst X47 hx hby at_408 409 rfl (z := (1 : Int32)) rfl ?_
      refine Gol.iaload X47 hx hby hZ e47 V_A3 at_409 410 rfl ⟨by decide, by decide⟩ (v := te) rfl ?_
      by_cases hc410_52 : te < nb
      · skip
        refine Gol.icmpNo X47 hx hby at_410 413 rfl (tlt hc410_52).2.2.2 ?_
        refine Gol.iconst X47 hx hby at_413 414 rfl (z := (1 : Int32)) rfl ?_
        refine Gol.goto X47 hx hby at_414 418 (by decide) ?_
        refine Gol.istore X47 hx hby at_418 420 rfl (l' := #[vi p0, vi p1, vi p2, vi p3, vj q4, ss, vi p5, vi na, vi nb, vi ta, vi tb, vi ba, vi bb, vi sw, vi rv, vi cz, vi cy, vr b6, vr b11, vr b14, vr (A 3), vr b20, vi sc, vi pq, vr (A 0), vi ma, vi mb, vi ia, vi 1, uu, uu, uu, uu, uu, uu]) rfl ?_
        exact k _ _ _ 1 X47 e47 ⟨N47, (Keep.refl _ _), Or.inl ⟨rfl, hc401_51, hc410_52⟩⟩
      · skip
        refine Gol.icmpYes X47 hx hby at_410 417 (by decide) (flt hc410_52).2.2.2 ?_
        refine Gol.iconst X47 hx hby at_417 418 rfl (z := (0 : Int32)) rfl ?_
        refine Gol.istore X47 hx hby at_418 420 rfl (l' := #[vi p0, vi p1, vi p2, vi p3, vj q4, ss, vi p5, vi na, vi nb, vi ta, vi tb, vi ba, vi bb, vi sw, vi rv, vi cz, vi cy, vr b6, vr b11, vr b14, vr (A 3), vr b20, vi sc, vi pq, vr (A 0), vi ma, vi mb, vi ia, vi 0, uu, uu, uu, uu, uu, uu]) rfl ?_
        exact k _ _ _ 0 X47 e47 ⟨N47, (Keep.refl _ _), Or.inr ⟨rfl, fun q => hc410_52 q.2⟩⟩
    · skip
      refine Gol.ifYes X47 hx hby at_401 417 (by decide) ((if0 _ _).trans (flt hc401_51).2.2.2) ?_
      refine Gol.iconst X47 hx hby at_417 418 rfl (z := (0 : Int32)) rfl ?_
      refine Gol.istore X47 hx hby at_418 420 rfl (l' := #[vi p0, vi p1, vi p2, vi p3, vj q4, ss, vi p5, vi na, vi nb, vi ta, vi tb, vi ba, vi bb, vi sw, vi rv, vi cz, vi cy, vr b6, vr b11, vr b14, vr (A 3), vr b20, vi sc, vi pq, vr (A 0), vi ma, vi mb, vi ia, vi 0, uu, uu, uu, uu, uu, uu]) rfl ?_
      exact k _ _ _ 0 X47 e47 ⟨N47, (Keep.refl _ _), Or.inr ⟨rfl, fun q => hc401_51 q.1⟩⟩
  intro T50 L50 h50 ib X50 e50 hB50
  obtain ⟨N50, Kq50, hI1⟩ := hB50
  have E_A0 := E_A0.keep Kq50
  have B_A0 := B_A0.keep Kq50 (nnA D 0 [] rfl)
  have V_A2 := V_A2.keep Kq50 (nnA D 2 [] rfl)
  have V_A8 := V_A8.keep Kq50 (nnA D 8 [] rfl)
  have V_A9 := V_A9.keep Kq50 (nnA D 9 [] rfl)
  have V_A3 := V_A3.keep Kq50 (nnA D 3 [] rfl)
  have Zs := Nat.le_trans Zs Kq50.1
  have S22 := fun (i : Nat) q => Nat.lt_of_lt_of_le (S22 i q) Kq50.1
  have hI1 : (ib = 1 ∧ 0 < bb ∧ te < nb) ∨ (ib = 0 ∧ ¬ (0 < bb ∧ te < nb)) := hI1
  show GolF _ _ _ _ _ _ _ T50 m 420 #[vi p0, vi p1, vi p2, vi p3, vj q4, ss, vi p5, vi na, vi nb, vi ta, vi tb, vi ba, vi bb, vi sw, vi rv, vi cz, vi cy, vr b6, vr b11, vr b14, vr (A 3), vr b20, vi sc, vi pq, vr (A 0), vi ma, vi mb, vi ia, vi ib, uu, uu, uu, uu, uu, uu] []
  refine Gol.iload X50 hx hby at_420 422 rfl rfl ?_
  refine Gol.dia (S' := (T50.setTop (mkF m 430 #[vi p0, vi p1, vi p2, vi p3, vj q4, ss, vi p5, vi na, vi nb, vi ta, vi tb, vi ba, vi bb, vi sw, vi rv, vi cz, vi cy, vr b6, vr b11, vr b14, vr (A 3), vr b20, vi sc, vi pq, vr (A 0), vi ma, vi mb, vi ia, vi ib, uu, uu, uu, uu, uu, uu] [(.int (if ia = (0 : Int32) then (0 : Int32) else (1 : Int32)))]))) ?_ ?_
  · intro k
    by_cases hd422_53 : ia = (0 : Int32)
    · rw [if_pos hd422_53] at k
      refine Gol.ifYes X50 hx hby at_422 429 (by decide) ((if0 _ _).trans (teq hd422_53).1) ?_
      refine Gol.iconst X50 hx hby at_429 430 rfl (z := (0 : Int32)) rfl ?_
      exact k
    · rw [if_neg hd422_53] at k
      refine Gol.ifNo X50 hx hby at_422 425 rfl ((if0 _ _).trans (feq hd422_53).1) ?_
      refine Gol.iconst X50 hx hby at_425 426 rfl (z := (1 : Int32)) rfl ?_
      refine Gol.goto X50 hx hby at_426 430 (by decide) ?_
      exact k
  show GolF _ _ _ _ _ _ _ T50 m 430 #[vi p0, vi p1, vi p2, vi p3, vj q4, ss, vi p5, vi na, vi nb, vi ta, vi tb, vi ba, vi bb, vi sw, vi rv, vi cz, vi cy, vr b6, vr b11, vr b14, vr (A 3), vr b20, vi sc, vi pq, vr (A 0), vi ma, vi mb, vi ia, vi ib, uu, uu, uu, uu, uu, uu] [(.int (if ia = (0 : Int32) then (0 : Int32) else (1 : Int32)))]
  refine Gol.iload X50 hx hby at_430 432 rfl rfl ?_
  refine Gol.dia (S' := (T50.setTop (mkF m 440 #[vi p0, vi p1, vi p2, vi p3, vj q4, ss, vi p5, vi na, vi nb, vi ta, vi tb, vi ba, vi bb, vi sw, vi rv, vi cz, vi cy, vr b6, vr b11, vr b14, vr (A 3), vr b20, vi sc, vi pq, vr (A 0), vi ma, vi mb, vi ia, vi ib, uu, uu, uu, uu, uu, uu] [(.int (if ib = (0 : Int32) then (0 : Int32) else (1 : Int32))), (.int (if ia = (0 : Int32) then (0 : Int32) else (1 : Int32)))]))) ?_ ?_
  · intro k
    by_cases hd432_54 : ib = (0 : Int32)
    · rw [if_pos hd432_54] at k
      refine Gol.ifYes X50 hx hby at_432 439 (by decide) ((if0 _ _).trans (teq hd432_54).1) ?_
      refine Gol.iconst X50 hx hby at_439 440 rfl (z := (0 : Int32)) rfl ?_
      exact k
    · rw [if_neg hd432_54] at k
      refine Gol.ifNo X50 hx hby at_432 435 rfl ((if0 _ _).trans (feq hd432_54).1) ?_
      refine Gol.iconst X50 hx hby at_435 436 rfl (z := (1 : Int32)) rfl ?_
      refine Gol.goto X50 hx hby at_436 440 (by decide) ?_
      exact k
  show GolF _ _ _ _ _ _ _ T50 m 440 #[vi p0, vi p1, vi p2, vi p3, vj q4, ss, vi p5, vi na, vi nb, vi ta, vi tb, vi ba, vi bb, vi sw, vi rv, vi cz, vi cy, vr b6, vr b11, vr b14, vr (A 3), vr b20, vi sc, vi pq, vr (A 0), vi ma, vi mb, vi ia, vi ib, uu, uu, uu, uu, uu, uu] [(.int (if ib = (0 : Int32) then (0 : Int32) else (1 : Int32))), (.int (if ia = (0 : Int32) then (0 : Int32) else (1 : Int32)))]
  refine Gol.iadd X50 hx hby at_440 441 rfl rfl ?_
  refine Gol.istore X50 hx hby at_441 443 rfl (l' := #[vi p0, vi p1, vi p2, vi p3, vj q4, ss, vi p5, vi na, vi nb, vi ta, vi tb, vi ba, vi bb, vi sw, vi rv, vi cz, vi cy, vr b6, vr b11, vr b14, vr (A 3), vr b20, vi sc, vi pq, vr (A 0), vi ma, vi mb, vi ia, vi ib, vi ((if ia = (0 : Int32) then (0 : Int32) else (1 : Int32)) + (if ib = (0 : Int32) then (0 : Int32) else (1 : Int32))), uu, uu, uu, uu, uu]) rfl ?_
  generalize hN_xp : ((if ia = (0 : Int32) then (0 : Int32) else (1 : Int32)) + (if ib = (0 : Int32) then (0 : Int32) else (1 : Int32))) = xp
  refine Gol.iconst X50 hx hby at_443 444 rfl (z := (2 : Int32)) rfl ?_
  refine Gol.newarr X50 hx hby hZ (w 5 _ rfl) e50 2 at_444 446 rfl (by decide) (by decide) (by decide) (by decide) (by decide) ?_
  intro T55 h55 k55 b55 g55 X55 e55 E55 A55
  have Nr_b55 : ∀ i : Nat, decide (i < 22) = true → A i ≠ b55 := fun i q => Nat.ne_of_lt (Nat.lt_of_lt_of_le (S22 i q) (Nat.le_of_eq g55.symm))
  have ne_A0_b55 : (A 0) ≠ b55 := Nr_b55 0 rfl
  have ne_A2_b55 : (A 2) ≠ b55 := Nr_b55 2 rfl
  have ne_A8_b55 : (A 8) ≠ b55 := Nr_b55 8 rfl
  have ne_A9_b55 : (A 9) ≠ b55 := Nr_b55 9 rfl
  have ne_A3_b55 : (A 3) ≠ b55 := Nr_b55 3 rfl
  have g_b55 : n0 ≤ b55 := Nat.le_trans Zs (Nat.le_of_eq g55.symm)
  have E_A0 := E_A0.ext E55
  have B_A0 := B_A0.ext E55
  have V_A2 := V_A2.ext E55
  have V_A8 := V_A8.ext E55
  have V_A9 := V_A9.ext E55
  have V_A3 := V_A3.ext E55
  have Zs := Nat.le_trans Zs E55.1
  have S22 := fun (i : Nat) q => Nat.lt_of_lt_of_le (S22 i q) E55.1
  have V_b55 : Arv Z h55 b55 k55 .int (2 : Int32) [(.int 0), (.int 0)] (.int 0) := A55.pad (pad_rep [] (.int 0) 2)
  refine Gol.dup X55 hx hby at_446 447 rfl rfl ?_
  refine Gol.iconst X55 hx hby at_447 448 rfl (z := (0 : Int32)) rfl ?_
  refine Gol.iconst X55 hx hby at_448 449 rfl (z := (-1 : Int32)) rfl ?_
  refine Gol.iastore X55 hx hby hZ e55 V_b55 at_449 450 rfl ⟨by decide, by decide⟩ 0 rfl (Nat.le_of_ble_eq_true rfl) ?_
  intro T56 h56 X56 e56 W56 A56
  have V_b55 : Arv Z h56 b55 k55 .int (2 : Int32) [(.int (-1)), (.int 0)] (.int 0) := A56
  have E_A0 := E_A0.wr W56
  have B_A0 := B_A0.other W56 ne_A0_b55
  have V_A2 := V_A2.other W56 ne_A2_b55
  have V_A8 := V_A8.other W56 ne_A8_b55
  have V_A9 := V_A9.other W56 ne_A9_b55
  have V_A3 := V_A3.other W56 ne_A3_b55
  have Zs := Nat.le_trans Zs (Keep.of_wr W56).1
  have S22 := fun (i : Nat) q => Nat.lt_of_lt_of_le (S22 i q) (Keep.of_wr W56).1
  have N56 := Fr.snoc X56 N50 g_b55
  refine Gol.dup X56 hx hby at_450 451 rfl rfl ?_
  refine Gol.iconst X56 hx hby at_451 452 rfl (z := (1 : Int32)) rfl ?_
  refine Gol.iconst X56 hx hby at_452 453 rfl (z := (-1 : Int32)) rfl ?_
  refine Gol.iastore X56 hx hby hZ e56 V_b55 at_453 454 rfl ⟨by decide, by decide⟩ 1 rfl (Nat.le_of_ble_eq_true rfl) ?_
  intro T57 h57 X57 e57 W57 A57
  have V_b55 : Arv Z h57 b55 k55 .int (2 : Int32) [(.int (-1)), (.int (-1))] (.int 0) := A57
  have E_A0 := E_A0.wr W57
  have B_A0 := B_A0.other W57 ne_A0_b55
  have V_A2 := V_A2.other W57 ne_A2_b55
  have V_A8 := V_A8.other W57 ne_A8_b55
  have V_A9 := V_A9.other W57 ne_A9_b55
  have V_A3 := V_A3.other W57 ne_A3_b55
  have Zs := Nat.le_trans Zs (Keep.of_wr W57).1
  have S22 := fun (i : Nat) q => Nat.lt_of_lt_of_le (S22 i q) (Keep.of_wr W57).1
  have N57 := Fr.snoc X57 N56 g_b55
  refine Gol.astore X57 hx hby at_454 456 rfl rfl (l' := #[vi p0, vi p1, vi p2, vi p3, vj q4, ss, vi p5, vi na, vi nb, vi ta, vi tb, vi ba, vi bb, vi sw, vi rv, vi cz, vi cy, vr b6, vr b11, vr b14, vr (A 3), vr b20, vi sc, vi pq, vr (A 0), vi ma, vi mb, vi ia, vi ib, vi xp, vr b55, uu, uu, uu, uu]) rfl ?_
  refine Gol.iconst X57 hx hby at_456 457 rfl (z := (2 : Int32)) rfl ?_
  refine Gol.newarr X57 hx hby hZ (w 19 _ rfl) e57 2 at_457 459 rfl (by decide) (by decide) (by decide) (by decide) (by decide) ?_
  intro T58 h58 k58 b58 g58 X58 e58 E58 A58
  have Nr_b58 : ∀ i : Nat, decide (i < 22) = true → A i ≠ b58 := fun i q => Nat.ne_of_lt (Nat.lt_of_lt_of_le (S22 i q) (Nat.le_of_eq g58.symm))
  have ne_A0_b58 : (A 0) ≠ b58 := Nr_b58 0 rfl
  have ne_A2_b58 : (A 2) ≠ b58 := Nr_b58 2 rfl
  have ne_A8_b58 : (A 8) ≠ b58 := Nr_b58 8 rfl
  have ne_A9_b58 : (A 9) ≠ b58 := Nr_b58 9 rfl
  have ne_A3_b58 : (A 3) ≠ b58 := Nr_b58 3 rfl
  have ne_b55_b58 : b55 ≠ b58 := Nat.ne_of_lt (Nat.lt_of_lt_of_le V_b55.lt (Nat.le_of_eq g58.symm))
  have g_b58 : n0 ≤ b58 := Nat.le_trans Zs (Nat.le_of_eq g58.symm)
  have E_A0 := E_A0.ext E58
  have B_A0 := B_A0.ext E58
  have V_A2 := V_A2.ext E58
  have V_A8 := V_A8.ext E58
  have V_A9 := V_A9.ext E58
  have V_A3 := V_A3.ext E58
  have V_b55 := V_b55.ext E58
  have Zs := Nat.le_trans Zs E58.1
  have V_b58 : Arv Z h58 b58 k58 .double (2 : Int32) [(.double 0), (.double 0)] (.double 0) := A58.pad (pad_rep [] (.double 0) 2)
  refine Gol.dup X58 hx hby at_459 460 rfl rfl ?_
  refine Gol.iconst X58 hx hby at_460 461 rfl (z := (0 : Int32)) rfl ?_
  refine Gol.ldc2Double X58 hx hby hZ hown at_461 464 rfl (w 160 _ rfl) ?_
  refine Gol.dastore X58 hx hby hZ e58 V_b58 at_464 465 rfl ⟨by decide, by decide⟩ 0 rfl (Nat.le_of_ble_eq_true rfl) ?_
  intro T59 h59 X59 e59 W59 A59
  have V_b58 : Arv Z h59 b58 k58 .double (2 : Int32) [(.double 13830554455654793216), (.double 0)] (.double 0) := A59
  have E_A0 := E_A0.wr W59
  have B_A0 := B_A0.other W59 ne_A0_b58
  have V_A2 := V_A2.other W59 ne_A2_b58
  have V_A8 := V_A8.other W59 ne_A8_b58
  have V_A9 := V_A9.other W59 ne_A9_b58
  have V_A3 := V_A3.other W59 ne_A3_b58
  have V_b55 := V_b55.other W59 ne_b55_b58
  have Zs := Nat.le_trans Zs (Keep.of_wr W59).1
  have N59 := Fr.snoc X59 N57 g_b58
  refine Gol.dup X59 hx hby at_465 466 rfl rfl ?_
  refine Gol.iconst X59 hx hby at_466 467 rfl (z := (1 : Int32)) rfl ?_
  refine Gol.ldc2Double X59 hx hby hZ hown at_467 470 rfl (w 160 _ rfl) ?_
  refine Gol.dastore X59 hx hby hZ e59 V_b58 at_470 471 rfl ⟨by decide, by decide⟩ 1 rfl (Nat.le_of_ble_eq_true rfl) ?_
  intro T60 h60 X60 e60 W60 A60
  have V_b58 : Arv Z h60 b58 k58 .double (2 : Int32) [(.double 13830554455654793216), (.double 13830554455654793216)] (.double 0) := A60
  have E_A0 := E_A0.wr W60
  have B_A0 := B_A0.other W60 ne_A0_b58
  have V_A2 := V_A2.other W60 ne_A2_b58
  have V_A8 := V_A8.other W60 ne_A8_b58
  have V_A9 := V_A9.other W60 ne_A9_b58
  have V_A3 := V_A3.other W60 ne_A3_b58
  have V_b55 := V_b55.other W60 ne_b55_b58
  have Zs := Nat.le_trans Zs (Keep.of_wr W60).1
  have N60 := Fr.snoc X60 N59 g_b58
  refine Gol.astore X60 hx hby at_471 473 rfl rfl (l' := #[vi p0, vi p1, vi p2, vi p3, vj q4, ss, vi p5, vi na, vi nb, vi ta, vi tb, vi ba, vi bb, vi sw, vi rv, vi cz, vi cy, vr b6, vr b11, vr b14, vr (A 3), vr b20, vi sc, vi pq, vr (A 0), vi ma, vi mb, vi ia, vi ib, vi xp, vr b55, vr b58, uu, uu, uu]) rfl ?_
  refine Gol.aload X60 hx hby at_473 475 rfl rfl rfl ?_
  refine Gol.aload X60 hx hby at_475 477 rfl rfl rfl ?_
  refine Gol.aload X60 hx hby at_477 479 rfl rfl rfl ?_
  obtain ⟨hga, hgb⟩ := own_gab hSL hSR
  refine Gol.callV X60 hx hby hZ hown 0 [(.ref b55), (.ref b58)] (a := (A 0)) (w 161 _ rfl) (w 162 _ rfl) (notFace_of_selects (args := #[]) (mvT hZ (w 164 _ rfl))) (w 164 _ rfl) (w 163 _ rfl) (w 10 _ rfl) (w 165 _ rfl) (by decide) E_A0 (rmWei l Z a0 hw [] b55 b58 A fa fb fc fd fe ff fg ga gb na nb td te (-1) (-1) 13830554455654793216 13830554455654793216 h60 n0 Zs B_A0 E_A0 ⟨_, V_A2⟩ ⟨_, V_A3⟩ ⟨_, V_A8⟩ ⟨_, V_A9⟩ ⟨_, V_b55⟩ ⟨_, V_b58⟩ Nr_b55 Nr_b58 ne_b55_b58 g_b55 g_b58 hga hgb) (by decide) (by decide) e60 (by rw [hml]; rfl) (rest := []) (Nat.le_of_eq rfl) (by decide) (by decide) (lenOf pd_14 rfl) rfl at_479 482 rfl ?_
  intro T61 v61 L61 X61 hQ61
  obtain ⟨kk, oa, ob, qa, qb, rfl, Nq61, Kq61, ⟨kx, V_b55⟩, ⟨ky, V_b58⟩, hWR⟩ := hQ61
  have N61 := Fr.app N60 Nq61
  show GolF _ _ _ _ _ _ _ T61 m 482 #[vi p0, vi p1, vi p2, vi p3, vj q4, ss, vi p5, vi na, vi nb, vi ta, vi tb, vi ba, vi bb, vi sw, vi rv, vi cz, vi cy, vr b6, vr b11, vr b14, vr (A 3), vr b20, vi sc, vi pq, vr (A 0), vi ma, vi mb, vi ia, vi ib, vi xp, vr b55, vr b58, uu, uu, uu] [(.int kk)]
  obtain ⟨hE0, hE1, hE2⟩ := own_end hSL hSR hI0 hI1 hWR hN_xp
  refine Gol.istore X61 hx hby at_482 484 rfl (l' := #[vi p0, vi p1, vi p2, vi p3, vj q4, ss, vi p5, vi na, vi nb, vi ta, vi tb, vi ba, vi bb, vi sw, vi rv, vi cz, vi cy, vr b6, vr b11, vr b14, vr (A 3), vr b20, vi sc, vi pq, vr (A 0), vi ma, vi mb, vi ia, vi ib, vi xp, vr b55, vr b58, vi kk, uu, uu]) rfl ?_
  refine Gol.iload X61 hx hby at_484 486 rfl rfl ?_
  refine Gol.iload X61 hx hby at_486 488 rfl rfl ?_
  refine Gol.icmpYes X61 hx hby at_488 493 (by decide) (teq hE0).1 ?_
  refine Gol.iload X61 hx hby at_493 495 rfl rfl ?_
  by_cases hc495_62 : xp = (0 : Int32)
  · skip
    refine Gol.ifNo X61 hx hby at_495 498 rfl ((if0 _ _).trans (teq hc495_62).2) ?_
    refine Gol.iconst X61 hx hby at_498 499 rfl (z := (1 : Int32)) rfl ?_
    exact Gol.retN X61 hx hby (t := .boolean) Bd.returns (by simp) Bd.notSynchronized at_499 rfl ⟨rfl, N61⟩ (by decide) (by decide)
  · skip
    refine Gol.ifYes X61 hx hby at_495 500 (by decide) ((if0 _ _).trans (feq hc495_62).2) ?_
    refine Gol.iload X61 hx hby at_500 502 rfl rfl ?_
    refine Gol.iconst X61 hx hby at_502 503 rfl (z := (1 : Int32)) rfl ?_
    by_cases hc503_63 : xp = (1 : Int32)
    · skip
      refine Gol.icmpNo X61 hx hby at_503 506 rfl (teq hc503_63).2 ?_
      obtain ⟨ho, rfl⟩ := hE1 hc503_63
      refine Gol.iload X61 hx hby at_506 508 rfl rfl ?_
      refine Gol.dia (S' := (T61.setTop (mkF m 516 #[vi p0, vi p1, vi p2, vi p3, vj q4, ss, vi p5, vi na, vi nb, vi ta, vi tb, vi ba, vi bb, vi sw, vi rv, vi cz, vi cy, vr b6, vr b11, vr b14, vr (A 3), vr b20, vi sc, vi pq, vr (A 0), vi ma, vi mb, vi ia, vi ib, vi xp, vr b55, vr b58, vi kk, uu, uu] [(.int (if ia = (0 : Int32) then (1 : Int32) else (0 : Int32)))]))) ?_ ?_
      · intro k
        by_cases hd508_64 : ia = (0 : Int32)
        · rw [if_pos hd508_64] at k
          refine Gol.ifYes X61 hx hby at_508 515 (by decide) ((if0 _ _).trans (teq hd508_64).1) ?_
          refine Gol.iconst X61 hx hby at_515 516 rfl (z := (1 : Int32)) rfl ?_
          exact k
        · rw [if_neg hd508_64] at k
          refine Gol.ifNo X61 hx hby at_508 511 rfl ((if0 _ _).trans (feq hd508_64).1) ?_
          refine Gol.iconst X61 hx hby at_511 512 rfl (z := (0 : Int32)) rfl ?_
          refine Gol.goto X61 hx hby at_512 516 (by decide) ?_
          exact k
      show GolF _ _ _ _ _ _ _ T61 m 516 #[vi p0, vi p1, vi p2, vi p3, vj q4, ss, vi p5, vi na, vi nb, vi ta, vi tb, vi ba, vi bb, vi sw, vi rv, vi cz, vi cy, vr b6, vr b11, vr b14, vr (A 3), vr b20, vi sc, vi pq, vr (A 0), vi ma, vi mb, vi ia, vi ib, vi xp, vr b55, vr b58, vi kk, uu, uu] [(.int (if ia = (0 : Int32) then (1 : Int32) else (0 : Int32)))]
      refine Gol.istore X61 hx hby at_516 518 rfl (l' := #[vi p0, vi p1, vi p2, vi p3, vj q4, ss, vi p5, vi na, vi nb, vi ta, vi tb, vi ba, vi bb, vi sw, vi rv, vi cz, vi cy, vr b6, vr b11, vr b14, vr (A 3), vr b20, vi sc, vi pq, vr (A 0), vi ma, vi mb, vi ia, vi ib, vi xp, vr b55, vr b58, vi kk, vi (if ia = (0 : Int32) then (1 : Int32) else (0 : Int32)), uu]) rfl ?_
      refine Gol.aload X61 hx hby at_518 520 rfl rfl rfl ?_
      refine Gol.iconst X61 hx hby at_520 521 rfl (z := (0 : Int32)) rfl ?_
      refine Gol.iaload X61 hx hby hZ rfl V_b55 at_521 522 rfl ⟨by decide, by decide⟩ (v := oa) rfl ?_
      refine Gol.iload X61 hx hby at_522 524 rfl rfl ?_
      refine Gol.icmpNo X61 hx hby at_524 527 rfl (teq ho).2 ?_
      refine Gol.aload X61 hx hby at_527 529 rfl rfl rfl ?_
      refine Gol.iconst X61 hx hby at_529 530 rfl (z := (0 : Int32)) rfl ?_
      refine Gol.daload X61 hx hby hZ rfl V_b58 at_530 531 rfl ⟨by decide, by decide⟩ (v := (4607182418800017408 : UInt64)) rfl ?_
      refine Gol.dconst1 X61 hx hby at_531 532 rfl (v := (4607182418800017408 : UInt64)) (by decide +kernel) ?_
      refine Gol.dcmp X61 hx hby at_532 533 rfl (v := (0 : Int32)) (by decide +kernel) ?_
      refine Gol.ifNo X61 hx hby at_533 536 rfl ((if0 _ _).trans (teq (by decide : (0 : Int32) = (0 : Int32))).2) ?_
      refine Gol.iconst X61 hx hby at_536 537 rfl (z := (1 : Int32)) rfl ?_
      refine Gol.goto X61 hx hby at_537 541 (by decide) ?_
      exact Gol.retN X61 hx hby (t := .boolean) Bd.returns (by simp) Bd.notSynchronized at_541 rfl ⟨rfl, N61⟩ (by decide) (by decide)
    · skip
      refine Gol.icmpYes X61 hx hby at_503 542 (by decide) (feq hc503_63).2 ?_
      obtain ⟨hw2, rfl, rfl⟩ := hE2 hc495_62 hc503_63
      rcases hw2 with ⟨rfl, rfl⟩ | ⟨rfl, rfl⟩
      · skip
        show GolF _ _ _ _ _ _ _ T61 m 542 #[vi p0, vi p1, vi p2, vi p3, vj q4, ss, vi p5, vi na, vi nb, vi ta, vi tb, vi ba, vi bb, vi sw, vi rv, vi cz, vi cy, vr b6, vr b11, vr b14, vr (A 3), vr b20, vi sc, vi pq, vr (A 0), vi ma, vi mb, vi ia, vi ib, vi xp, vr b55, vr b58, vi kk, uu, uu] []
        refine Gol.aload X61 hx hby at_542 544 rfl rfl rfl ?_
        refine Gol.iconst X61 hx hby at_544 545 rfl (z := (0 : Int32)) rfl ?_
        refine Gol.iaload X61 hx hby hZ rfl V_b55 at_545 546 rfl ⟨by decide, by decide⟩ (v := (0 : Int32)) rfl ?_
        refine Gol.ifNo X61 hx hby at_546 549 rfl ((if0 _ _).trans (teq (by decide : (0 : Int32) = (0 : Int32))).2) ?_
        refine Gol.aload X61 hx hby at_549 551 rfl rfl rfl ?_
        refine Gol.iconst X61 hx hby at_551 552 rfl (z := (1 : Int32)) rfl ?_
        refine Gol.iaload X61 hx hby hZ rfl V_b55 at_552 553 rfl ⟨by decide, by decide⟩ (v := (1 : Int32)) rfl ?_
        refine Gol.iconst X61 hx hby at_553 554 rfl (z := (1 : Int32)) rfl ?_
        refine Gol.icmpNo X61 hx hby at_554 557 rfl (teq (by decide : (1 : Int32) = (1 : Int32))).2 ?_
        refine Gol.iconst X61 hx hby at_557 558 rfl (z := (1 : Int32)) rfl ?_
        refine Gol.goto X61 hx hby at_558 562 (by decide) ?_
        refine Gol.istore X61 hx hby at_562 564 rfl (l' := #[vi p0, vi p1, vi p2, vi p3, vj q4, ss, vi p5, vi na, vi nb, vi ta, vi tb, vi ba, vi bb, vi sw, vi rv, vi cz, vi cy, vr b6, vr b11, vr b14, vr (A 3), vr b20, vi sc, vi pq, vr (A 0), vi ma, vi mb, vi ia, vi ib, vi xp, vr b55, vr b58, vi kk, vi 1, uu]) rfl ?_
        refine Gol.aload X61 hx hby at_564 566 rfl rfl rfl ?_
        refine Gol.iconst X61 hx hby at_566 567 rfl (z := (0 : Int32)) rfl ?_
        refine Gol.iaload X61 hx hby hZ rfl V_b55 at_567 568 rfl ⟨by decide, by decide⟩ (v := (0 : Int32)) rfl ?_
        refine Gol.iconst X61 hx hby at_568 569 rfl (z := (1 : Int32)) rfl ?_
        refine Gol.icmpYes X61 hx hby at_569 583 (by decide) (feq (by decide : ¬ ((0 : Int32) = (1 : Int32)))).2 ?_
        refine Gol.iconst X61 hx hby at_583 584 rfl (z := (0 : Int32)) rfl ?_
        refine Gol.istore X61 hx hby at_584 586 rfl (l' := #[vi p0, vi p1, vi p2, vi p3, vj q4, ss, vi p5, vi na, vi nb, vi ta, vi tb, vi ba, vi bb, vi sw, vi rv, vi cz, vi cy, vr b6, vr b11, vr b14, vr (A 3), vr b20, vi sc, vi pq, vr (A 0), vi ma, vi mb, vi ia, vi ib, vi xp, vr b55, vr b58, vi kk, vi 1, vi 0]) rfl ?_
        refine Gol.iload X61 hx hby at_586 588 rfl rfl ?_
        refine Gol.ifYes X61 hx hby at_588 596 (by decide) ((if0 _ _).trans (feq (by decide : ¬ ((1 : Int32) = (0 : Int32)))).2) ?_
        refine Gol.aload X61 hx hby at_596 598 rfl rfl rfl ?_
        refine Gol.iconst X61 hx hby at_598 599 rfl (z := (0 : Int32)) rfl ?_
        refine Gol.daload X61 hx hby hZ rfl V_b58 at_599 600 rfl ⟨by decide, by decide⟩ (v := (4607182418800017408 : UInt64)) rfl ?_
        refine Gol.dconst1 X61 hx hby at_600 601 rfl (v := (4607182418800017408 : UInt64)) (by decide +kernel) ?_
        refine Gol.dcmp X61 hx hby at_601 602 rfl (v := (0 : Int32)) (by decide +kernel) ?_
        refine Gol.ifNo X61 hx hby at_602 605 rfl ((if0 _ _).trans (teq (by decide : (0 : Int32) = (0 : Int32))).2) ?_
        refine Gol.aload X61 hx hby at_605 607 rfl rfl rfl ?_
        refine Gol.iconst X61 hx hby at_607 608 rfl (z := (1 : Int32)) rfl ?_
        refine Gol.daload X61 hx hby hZ rfl V_b58 at_608 609 rfl ⟨by decide, by decide⟩ (v := (4607182418800017408 : UInt64)) rfl ?_
        refine Gol.dconst1 X61 hx hby at_609 610 rfl (v := (4607182418800017408 : UInt64)) (by decide +kernel) ?_
        refine Gol.dcmp X61 hx hby at_610 611 rfl (v := (0 : Int32)) (by decide +kernel) ?_
        refine Gol.ifNo X61 hx hby at_611 614 rfl ((if0 _ _).trans (teq (by decide : (0 : Int32) = (0 : Int32))).2) ?_
        refine Gol.iconst X61 hx hby at_614 615 rfl (z := (1 : Int32)) rfl ?_
        refine Gol.goto X61 hx hby at_615 619 (by decide) ?_
        exact Gol.retN X61 hx hby (t := .boolean) Bd.returns (by simp) Bd.notSynchronized at_619 rfl ⟨rfl, N61⟩ (by decide) (by decide)
      · skip
        show GolF _ _ _ _ _ _ _ T61 m 542 #[vi p0, vi p1, vi p2, vi p3, vj q4, ss, vi p5, vi na, vi nb, vi ta, vi tb, vi ba, vi bb, vi sw, vi rv, vi cz, vi cy, vr b6, vr b11, vr b14, vr (A 3), vr b20, vi sc, vi pq, vr (A 0), vi ma, vi mb, vi ia, vi ib, vi xp, vr b55, vr b58, vi kk, uu, uu] []
        refine Gol.aload X61 hx hby at_542 544 rfl rfl rfl ?_
        refine Gol.iconst X61 hx hby at_544 545 rfl (z := (0 : Int32)) rfl ?_
        refine Gol.iaload X61 hx hby hZ rfl V_b55 at_545 546 rfl ⟨by decide, by decide⟩ (v := (1 : Int32)) rfl ?_
        refine Gol.ifYes X61 hx hby at_546 561 (by decide) ((if0 _ _).trans (feq (by decide : ¬ ((1 : Int32) = (0 : Int32)))).2) ?_
        refine Gol.iconst X61 hx hby at_561 562 rfl (z := (0 : Int32)) rfl ?_
        refine Gol.istore X61 hx hby at_562 564 rfl (l' := #[vi p0, vi p1, vi p2, vi p3, vj q4, ss, vi p5, vi na, vi nb, vi ta, vi tb, vi ba, vi bb, vi sw, vi rv, vi cz, vi cy, vr b6, vr b11, vr b14, vr (A 3), vr b20, vi sc, vi pq, vr (A 0), vi ma, vi mb, vi ia, vi ib, vi xp, vr b55, vr b58, vi kk, vi 0, uu]) rfl ?_
        refine Gol.aload X61 hx hby at_564 566 rfl rfl rfl ?_
        refine Gol.iconst X61 hx hby at_566 567 rfl (z := (0 : Int32)) rfl ?_
        refine Gol.iaload X61 hx hby hZ rfl V_b55 at_567 568 rfl ⟨by decide, by decide⟩ (v := (1 : Int32)) rfl ?_
        refine Gol.iconst X61 hx hby at_568 569 rfl (z := (1 : Int32)) rfl ?_
        refine Gol.icmpNo X61 hx hby at_569 572 rfl (teq (by decide : (1 : Int32) = (1 : Int32))).2 ?_
        refine Gol.aload X61 hx hby at_572 574 rfl rfl rfl ?_
        refine Gol.iconst X61 hx hby at_574 575 rfl (z := (1 : Int32)) rfl ?_
        refine Gol.iaload X61 hx hby hZ rfl V_b55 at_575 576 rfl ⟨by decide, by decide⟩ (v := (0 : Int32)) rfl ?_
        refine Gol.ifNo X61 hx hby at_576 579 rfl ((if0 _ _).trans (teq (by decide : (0 : Int32) = (0 : Int32))).2) ?_
        refine Gol.iconst X61 hx hby at_579 580 rfl (z := (1 : Int32)) rfl ?_
        refine Gol.goto X61 hx hby at_580 584 (by decide) ?_
        refine Gol.istore X61 hx hby at_584 586 rfl (l' := #[vi p0, vi p1, vi p2, vi p3, vj q4, ss, vi p5, vi na, vi nb, vi ta, vi tb, vi ba, vi bb, vi sw, vi rv, vi cz, vi cy, vr b6, vr b11, vr b14, vr (A 3), vr b20, vi sc, vi pq, vr (A 0), vi ma, vi mb, vi ia, vi ib, vi xp, vr b55, vr b58, vi kk, vi 0, vi 1]) rfl ?_
        refine Gol.iload X61 hx hby at_586 588 rfl rfl ?_
        refine Gol.ifNo X61 hx hby at_588 591 rfl ((if0 _ _).trans (teq (by decide : (0 : Int32) = (0 : Int32))).2) ?_
        refine Gol.iload X61 hx hby at_591 593 rfl rfl ?_
        refine Gol.ifNo X61 hx hby at_593 596 rfl ((if0 _ _).trans (feq (by decide : ¬ ((1 : Int32) = (0 : Int32)))).1) ?_
        refine Gol.aload X61 hx hby at_596 598 rfl rfl rfl ?_
        refine Gol.iconst X61 hx hby at_598 599 rfl (z := (0 : Int32)) rfl ?_
        refine Gol.daload X61 hx hby hZ rfl V_b58 at_599 600 rfl ⟨by decide, by decide⟩ (v := (4607182418800017408 : UInt64)) rfl ?_
        refine Gol.dconst1 X61 hx hby at_600 601 rfl (v := (4607182418800017408 : UInt64)) (by decide +kernel) ?_
        refine Gol.dcmp X61 hx hby at_601 602 rfl (v := (0 : Int32)) (by decide +kernel) ?_
        refine Gol.ifNo X61 hx hby at_602 605 rfl ((if0 _ _).trans (teq (by decide : (0 : Int32) = (0 : Int32))).2) ?_
        refine Gol.aload X61 hx hby at_605 607 rfl rfl rfl ?_
        refine Gol.iconst X61 hx hby at_607 608 rfl (z := (1 : Int32)) rfl ?_
        refine Gol.daload X61 hx hby hZ rfl V_b58 at_608 609 rfl ⟨by decide, by decide⟩ (v := (4607182418800017408 : UInt64)) rfl ?_
        refine Gol.dconst1 X61 hx hby at_609 610 rfl (v := (4607182418800017408 : UInt64)) (by decide +kernel) ?_
        refine Gol.dcmp X61 hx hby at_610 611 rfl (v := (0 : Int32)) (by decide +kernel) ?_
        refine Gol.ifNo X61 hx hby at_611 614 rfl ((if0 _ _).trans (teq (by decide : (0 : Int32) = (0 : Int32))).2) ?_
        refine Gol.iconst X61 hx hby at_614 615 rfl (z := (1 : Int32)) rfl ?_
        refine Gol.goto X61 hx hby at_615 619 (by decide) ?_
        exact Gol.retN X61 hx hby (t := .boolean) Bd.returns (by simp) Bd.notSynchronized at_619 rfl ⟨rfl, N61⟩ (by decide) (by decide)
set_option maxRecDepth 65536 in
set_option maxHeartbeats 40000000 in
theorem comes_1 {Post : Tables → Env → Array Value → State → Outcome → State → Prop} (hpost : ∀ tb e args s v u, (limb_1_1.after args s (.returned v) u = true ∧ limb_1_2.after args s (.returned v) u = true ∧ True) → FrameEnd s (.returned v) u (Jvm.fieldLocs frame_1_writes args s ++ Jvm.arrayLocs frame_1_arrays args s ++ Jvm.staticLocs frame_1_statics s) 64 256 → Post tb e args s (.returned v) u) :
    ArmFor flags0 classFile x code maxLocals ret World_1 tables_1 room_1 Calls_1 rest_1 Pre_1 Post := by
  intro l hfl _ _ p e ha hc hk s m args below hf hA hF happ hP
  obtain ⟨hcalls, hrest, hpre⟩ := hP
  obtain ⟨-, -, -, hnamed, -, -, -, hat⟩ := (Spec.applies_iff hf).mp happ
  obtain ⟨hg, hn⟩ := and_e (Cond.before_iff.mp (show (Jvm.Cond.and given_1 narrow_1).before args s = true from hpre))
  obtain ⟨gc, gr0⟩ := and_e hg
  obtain ⟨gk0, gr1⟩ := and_e gr0
  obtain ⟨gk1, gr2⟩ := and_e gr1
  obtain ⟨gk2, gr3⟩ := and_e gr2
  obtain ⟨gk3, gr4⟩ := and_e gr3
  obtain ⟨gk4, gr5⟩ := and_e gr4
  obtain ⟨w0, w1, w2, w3, w4, w5, rfl⟩ : ∃ w0 w1 w2 w3 w4 w5 : Value, args = #[w0, w1, w2, w3, w4, w5] := by
    have hs : args.size = 6 := by simpa [Cond.value, given_1] using gc
    obtain ⟨L⟩ := args
    match L, hs with
    | [w0, w1, w2, w3, w4, w5], _ => exact ⟨w0, w1, w2, w3, w4, w5, rfl⟩
  have hw := fun d (hd : d ∈ tables_1) => atoms_spec (ws := Jvm.Cond.code x code maxLocals ret :: tables_1) hat d (List.mem_cons_of_mem _ hd)
  have hfit : Fit s := fun {y c} hc i hi => by
    obtain ⟨ha, rfl⟩ := Array.getElem?_eq_some_iff.mp hc
    have q := List.all_eq_true.mp ((Array.all_eq_true_iff_forall_mem.mp hF) _ (Array.getElem_mem ha)) i (List.mem_range.mpr hi)
    simpa [Array.getElem?_eq_getElem hi] using q
  obtain ⟨i0, ei0⟩ := is_v gk0
  obtain rfl : w0 = (.int i0) := Option.some.inj ei0
  obtain ⟨i1, ei1⟩ := is_v gk1
  obtain rfl : w1 = (.int i1) := Option.some.inj ei1
  obtain ⟨i2, ei2⟩ := is_v gk2
  obtain rfl : w2 = (.int i2) := Option.some.inj ei2
  obtain ⟨i3, ei3⟩ := is_v gk3
  obtain rfl : w3 = (.int i3) := Option.some.inj ei3
  obtain ⟨i4, ei4⟩ := isL_v gk4
  obtain rfl : w4 = (.long i4) := Option.some.inj ei4
  obtain ⟨i5, ei5⟩ := is_v gr5
  obtain rfl : w5 = (.int i5) := Option.some.inj ei5
  obtain ⟨n, o, h1, h2, h3, _, L, rfl, ⟨rfl, N⟩, hq⟩ := rm0 l s _ hw tables_1 i0 i1 i2 i3 i4 i5  s.heap s.heap.size (Nat.le_refl _)  p e ha hc hk s m _ below hf ((Spec.applies_iff_loose hf).mp happ).1 ⟨rfl, State.Warmed39.refl s, rfl⟩ trivial
  refine ⟨n, _, h1, h2, h3, hpost _ _ _ _ _ _ ⟨Cond.after_iff.mpr rfl, Cond.after_iff.mpr (eq_i res_at (Term.int_eval (1)) rfl), trivial⟩ ⟨hq.1, hq.2.1, (hq.2.2.sift fun y hy => Or.inr (N y hy)).mono (by decide) (by decide)⟩⟩
theorem main_1_1 : Claimed_1_1 := comes_1 fun _ _ _ _ _ _ h hF => ⟨h.1, hF⟩
theorem main_1_2 : Claimed_1_2 := comes_1 fun _ _ _ _ _ _ h hF => ⟨h.2.1, hF⟩
end Jvm.Pilot.@@N@@
namespace Jvm.Pilot.@@N@@
open Jvm Jvm.ClassFile Sem Op Lib Jvm.Free Jvm.Stand Jvm.Pilot.@@N@@.Jvm.D
/-! MADE BY PROGRAM (witnessworld.py) out of the Statement's table words and the real class files: 24 classes; the members and pool entries that the words name. The judged class is class 1, her method 1. -/
namespace start1
open Jvm.ClassFile
def u (s : String) : CpInfo := .utf8 (stringToUtf16 s)
/-- a pool by its gaps: so many unusable entries, then the entry; so many at the end -/
def gap : Nat → List CpInfo → List CpInfo
  | 0, r => r
  | n + 1, r => .unusable :: gap n r
def poolList (es : List (Nat × CpInfo)) (last : Nat) : List CpInfo := es.foldr (fun e r => gap e.1 (e.2 :: r)) (gap last [])
def pool (es : List (Nat × CpInfo)) (last : Nat) : Array CpInfo := ⟨poolList es last⟩
def fileOf (pool : Array CpInfo) (this : Nat) (attrs : Array Attribute := #[]) (ms : Array MethodInfo := #[]) (fl : Nat := 33) (sup : Nat := 0) (ifs : Array Nat := #[]) (fds : Array FieldInfo := #[]) : ClassFile where
  minorVersion := 0
  majorVersion := 65
  constantPool := pool
  accessFlags := fl
  thisClass := this
  superClass := sup
  interfaces := ifs
  fields := fds
  methods := ms
  attributes := attrs
def plain (name : String) (sup : Option ClassId) : Class where
  name := name
  kind := .ordinary
  loader := none
  accessFlags := 33
  super := sup
  interfaces := #[]
  cf := none
  fields := #[]
  methods := #[]
  instanceTypes := #[]
  staticTypes := #[]
  resolved := #[]
  callSites := []
  init := .initialized
  statics := none
  mirror := none

def pool0 : Array CpInfo := pool [(5, u "<init>"), (0, u "()V"), (1, .class_ 10), (1, u "java/lang/Object")] 113

def k0c0 : Code := { maxStack := 0, maxLocals := 1, code := object_method_1_code, exceptionTable := #[], attributes := #[] }
def k0m0 : Method := { name := "<init>", desc := "()V", sig := { parameters := [], returnType := none }, accessFlags := 1, code := some k0c0 }
/-- java/lang/Object -/
def k0 : Class := { plain "java/lang/Object" none with
  accessFlags := 33
  interfaces := #[]
  cf := some (fileOf pool0 8 #[] #[{ accessFlags := 1, nameIndex := 5, descriptorIndex := 6, attributes := #[] }] 33 0 #[] #[])
  fields := #[]
  methods := #[k0m0]
  instanceTypes := #[]
  staticTypes := #[]
  resolved := Array.replicate 124 none
  statics := none }

def pool1 : Array CpInfo := pool [(2, .class_ 4), (1, u "java/lang/Object"), (0, u "<init>"), (0, u "()V"), (0, .integer 2147483647), (0, .methodref 9 10), (0, .class_ 11), (0, .nameAndType 12 13), (0, u "java/lang/Math"), (0, u "max"), (0, u "(II)I"), (0, .long 2147483647), (1, .class_ 17), (0, u "com/example/quorumstone/quorumstone/check/Relaxation"), (0, .methodref 16 19), (0, .nameAndType 5 20), (0, u "([I[J[I[I[II)V"), (0, .long 3), (3, .double 4746794007244308480), (1, .methodref 16 28), (0, .nameAndType 29 30), (0, u "solve"), (0, u "(IJD)D"), (0, .double 13830554455654793216), (1, .methodref 16 34), (0, .nameAndType 35 36), (0, u "weights"), (0, u "([I[D)I"), (0, .class_ 38), (0, u "com/example/quorumstone/quorumstone/check/RelaxationWeightsPinLaw"), (2, u "law"), (0, u "(IIIIJI)Z")] 9

def k1m0 : Method := { name := "<init>", desc := "()V", sig := { parameters := [], returnType := none }, accessFlags := 2, code := none }
def k1c1 : Code := { maxStack := 8, maxLocals := 35, code := code, exceptionTable := #[], attributes := #[] }
def k1m1 : Method := { name := "law", desc := "(IIIIJI)Z", sig := { parameters := [.int, .int, .int, .int, .long, .int], returnType := some .boolean }, accessFlags := 9, code := some k1c1 }
/-- com/example/quorumstone/quorumstone/check/RelaxationWeightsPinLaw -/
def k1 : Class := { plain "com/example/quorumstone/quorumstone/check/RelaxationWeightsPinLaw" (some 0) with
  accessFlags := 49
  interfaces := #[]
  cf := some (fileOf pool1 37 #[] #[{ accessFlags := 2, nameIndex := 5, descriptorIndex := 6, attributes := #[] }, { accessFlags := 9, nameIndex := 41, descriptorIndex := 42, attributes := #[] }] 49 2 #[] #[])
  fields := #[]
  methods := #[k1m0, k1m1]
  instanceTypes := #[]
  staticTypes := #[]
  resolved := Array.replicate 52 none
  statics := none }

def pool2 : Array CpInfo := pool [(1, .class_ 2), (0, u "java/lang/Math"), (1, .class_ 6), (1, u "java/lang/Object"), (0, u "<init>"), (0, u "()V"), (43, u "(DD)D"), (45, .class_ 100), (1, u "java/lang/Math$RandomNumberGeneratorHolder"), (71, u "negativeZeroFloatBits"), (0, u "J"), (2, u "negativeZeroDoubleBits"), (21, u "max"), (46, u "$assertionsDisabled"), (0, u "Z"), (88, u "(II)I"), (2, u "twoToTheDoubleScaleDown"), (0, u "D"), (4, u "twoToTheDoubleScaleUp"), (9, u "E"), (3, u "PI"), (2, u "TAU"), (2, u "DEGREES_TO_RADIANS"), (0, u "RADIANS_TO_DEGREES")] 94

def k2m0 : Method := { name := "<init>", desc := "()V", sig := { parameters := [], returnType := none }, accessFlags := 2, code := none }
def k2c1 : Code := { maxStack := 2, maxLocals := 2, code := jdk_29_method_65_code, exceptionTable := #[], attributes := #[] }
def k2m1 : Method := { name := "max", desc := "(II)I", sig := { parameters := [.int, .int], returnType := some .int }, accessFlags := 9, code := some k2c1 }
def k2c2 : Code := { maxStack := 4, maxLocals := 4, code := jdk_29_method_68_code, exceptionTable := #[], attributes := #[] }
def k2m2 : Method := { name := "max", desc := "(DD)D", sig := { parameters := [.double, .double], returnType := some .double }, accessFlags := 9, code := some k2c2 }
/-- java/lang/Math -/
def k2 : Class := { plain "java/lang/Math" (some 0) with
  accessFlags := 49
  interfaces := #[]
  cf := some (fileOf pool2 1 #[.nestMembers #[98]] #[{ accessFlags := 2, nameIndex := 7, descriptorIndex := 8, attributes := #[] }, { accessFlags := 9, nameIndex := 198, descriptorIndex := 335, attributes := #[] }, { accessFlags := 9, nameIndex := 198, descriptorIndex := 52, attributes := #[] }] 49 4 #[] #[{ accessFlags := 25, nameIndex := 354, descriptorIndex := 339, attributes := #[] }, { accessFlags := 25, nameIndex := 358, descriptorIndex := 339, attributes := #[] }, { accessFlags := 25, nameIndex := 361, descriptorIndex := 339, attributes := #[] }, { accessFlags := 26, nameIndex := 364, descriptorIndex := 339, attributes := #[] }, { accessFlags := 26, nameIndex := 365, descriptorIndex := 339, attributes := #[] }, { accessFlags := 26, nameIndex := 172, descriptorIndex := 173, attributes := #[] }, { accessFlags := 26, nameIndex := 176, descriptorIndex := 173, attributes := #[] }, { accessFlags := 8, nameIndex := 344, descriptorIndex := 339, attributes := #[] }, { accessFlags := 8, nameIndex := 338, descriptorIndex := 339, attributes := #[] }, { accessFlags := 4120, nameIndex := 245, descriptorIndex := 246, attributes := #[] }])
  fields := #[{ name := "E", type := .double, accessFlags := 25, slot := 0, constantValue := 0 }, { name := "PI", type := .double, accessFlags := 25, slot := 1, constantValue := 0 }, { name := "TAU", type := .double, accessFlags := 25, slot := 2, constantValue := 0 }, { name := "DEGREES_TO_RADIANS", type := .double, accessFlags := 26, slot := 3, constantValue := 0 }, { name := "RADIANS_TO_DEGREES", type := .double, accessFlags := 26, slot := 4, constantValue := 0 }, { name := "negativeZeroFloatBits", type := .long, accessFlags := 26, slot := 5, constantValue := 0 }, { name := "negativeZeroDoubleBits", type := .long, accessFlags := 26, slot := 6, constantValue := 0 }, { name := "twoToTheDoubleScaleUp", type := .double, accessFlags := 8, slot := 7, constantValue := 0 }, { name := "twoToTheDoubleScaleDown", type := .double, accessFlags := 8, slot := 8, constantValue := 0 }, { name := "$assertionsDisabled", type := .boolean, accessFlags := 4120, slot := 9, constantValue := 0 }]
  methods := #[k2m0, k2m1, k2m2]
  instanceTypes := #[]
  staticTypes := #[.double, .double, .double, .double, .double, .long, .long, .double, .double, .boolean]
  resolved := Array.replicate 460 none
  statics := none }

def pool3 : Array CpInfo := pool [(1, .class_ 2), (0, u "com/example/quorumstone/quorumstone/check/Relaxation"), (2, u "<init>"), (0, u "([I[J[I[I[II)V"), (0, .methodref 8 9), (0, .class_ 10), (0, .nameAndType 5 11), (0, u "java/lang/Object"), (0, u "()V"), (0, .fieldref 1 13), (0, .nameAndType 14 15), (0, u "candidates"), (0, u "[I"), (0, .fieldref 1 17), (0, .nameAndType 18 19), (0, u "candidateProfit"), (0, u "[D"), (0, .class_ 21), (0, u "[[D"), (0, .fieldref 1 23), (0, .nameAndType 24 25), (0, u "keptInverse"), (0, u "[[[D"), (0, .class_ 15), (0, .fieldref 1 28), (0, .nameAndType 29 30), (0, u "keptBasic"), (0, u "[[I"), (0, .class_ 19), (0, .fieldref 1 33), (0, .nameAndType 34 21), (0, u "keptValue"), (0, .fieldref 1 36), (0, .nameAndType 37 38), (0, u "demandsPerPass"), (0, u "I"), (0, .fieldref 1 40), (0, .nameAndType 41 38), (0, u "rows"), (0, .fieldref 1 43), (0, .nameAndType 44 15), (0, u "classSize"), (0, .fieldref 1 46), (0, .nameAndType 47 15), (0, u "need"), (0, .fieldref 1 49), (0, .nameAndType 50 15), (0, u "taken"), (0, .fieldref 1 52), (0, .nameAndType 53 15), (0, u "shortDemands"), (0, .fieldref 1 55), (0, .nameAndType 56 38), (0, u "demands"), (0, .fieldref 1 58), (0, .nameAndType 59 15), (0, u "demandStart"), (0, .methodref 61 62), (0, .class_ 63), (0, .nameAndType 64 65), (0, u "java/lang/Long"), (0, u "bitCount"), (0, u "(J)I"), (0, .fieldref 1 67), (0, .nameAndType 68 15), (0, u "demandClass"), (0, .methodref 61 70), (0, .nameAndType 71 65), (0, u "numberOfTrailingZeros"), (0, .fieldref 1 73), (0, .nameAndType 74 15), (0, u "basicRow"), (0, .fieldref 1 76), (0, .nameAndType 77 15), (0, u "basic"), (0, .fieldref 1 79), (0, .nameAndType 80 19), (0, u "value"), (0, .fieldref 1 82), (0, .nameAndType 83 21), (0, u "inverse"), (0, .fieldref 1 85), (0, .nameAndType 86 19), (0, u "basicProfit"), (0, .fieldref 1 88), (0, .nameAndType 89 19), (0, u "multiplier"), (0, .fieldref 1 91), (0, .nameAndType 92 19), (0, u "entering"), (0, .fieldref 1 94), (0, .nameAndType 95 19), (0, u "load"), (0, .methodref 1 97), (0, .nameAndType 98 11), (0, u "startFromSlacks"), (0, .fieldref 1 100), (0, .nameAndType 101 102), (0, u "undecided"), (0, u "J"), (0, .fieldref 1 104), (0, .nameAndType 105 106), (0, u "optimal"), (0, u "Z"), (0, .double 13725520251343122248), (4, .methodref 1 113), (0, .nameAndType 114 115), (0, u "startSolve"), (0, u "()D"), (0, .fieldref 1 117), (0, .nameAndType 118 38), (0, u "candidateCount"), (0, .fieldref 1 120), (0, .nameAndType 121 38), (0, u "nextDemand"), (3, u "(I)I"), (0, .methodref 1 127), (0, .nameAndType 128 129), (0, u "bestCandidate"), (0, u "()I"), (0, .methodref 1 131), (0, .nameAndType 132 125), (0, u "price"), (0, .methodref 1 134), (0, .nameAndType 135 136), (0, u "reducedProfit"), (0, u "(I)D"), (0, .methodref 1 138), (0, .nameAndType 139 140), (0, u "leavingRow"), (0, u "(IZ)I"), (0, .methodref 142 143), (0, .class_ 144), (0, .nameAndType 145 146), (0, u "java/lang/Math"), (0, u "max"), (0, u "(DD)D"), (0, .double 4472406533629990549), (1, .methodref 1 150), (0, .nameAndType 151 152), (0, u "pivot"), (0, u "(IIDD)V"), (0, .fieldref 1 154), (0, .nameAndType 155 38), (0, u "pivotsSinceRefactor"), (0, .methodref 1 157), (0, .nameAndType 158 115), (0, u "bound"), (3, .methodref 142 163), (0, .nameAndType 145 164), (0, u "(II)I"), (1, .class_ 168), (1, u "java/util/Arrays"), (10, .methodref 1 180), (0, .nameAndType 181 136), (0, u "profit"), (0, .methodref 1 183), (0, .nameAndType 184 11), (0, u "computeMultipliers"), (0, .methodref 1 186), (0, .nameAndType 187 188), (0, u "offer"), (0, u "(ID)Z"), (0, .fieldref 1 190), (0, .nameAndType 191 38), (0, u "weakest"), (0, .methodref 166 193), (0, .nameAndType 194 195), (0, u "fill"), (0, u "([DD)V"), (0, .double 13830554455654793216), (1, .double 4502148214488346440), (5, .methodref 166 205), (0, .nameAndType 194 206), (0, u "([II)V"), (0, u "TOLERANCE"), (0, u "D"), (1, u "PIVOT"), (0, u "PIVOTS_PER_REFACTOR"), (1, u "DEGENERATE_BEFORE_BLAND"), (1, u "PIVOTS_PER_ROW"), (1, u "CANDIDATES"), (1, u "DEMANDS_PER_PASS"), (6, u "solve"), (0, u "(IJD)D"), (2, u "weights"), (0, u "([I[D)I")] 5

def k3c0 : Code := { maxStack := 6, maxLocals := 11, code := prog_8_method_2_code, exceptionTable := #[], attributes := #[] }
def k3m0 : Method := { name := "<init>", desc := "([I[J[I[I[II)V", sig := { parameters := [(.array .int), (.array .long), (.array .int), (.array .int), (.array .int), .int], returnType := none }, accessFlags := 0, code := some k3c0 }
def k3c1 : Code := { maxStack := 7, maxLocals := 17, code := prog_8_method_3_code, exceptionTable := #[], attributes := #[] }
def k3m1 : Method := { name := "solve", desc := "(IJD)D", sig := { parameters := [.int, .long, .double], returnType := some .double }, accessFlags := 0, code := some k3c1 }
def k3c2 : Code := { maxStack := 4, maxLocals := 6, code := prog_8_method_7_code, exceptionTable := #[], attributes := #[] }
def k3m2 : Method := { name := "weights", desc := "([I[D)I", sig := { parameters := [(.array .int), (.array .double)], returnType := some .int }, accessFlags := 0, code := some k3c2 }
def k3c3 : Code := { maxStack := 8, maxLocals := 4, code := prog_8_method_10_code, exceptionTable := #[], attributes := #[] }
def k3m3 : Method := { name := "startSolve", desc := "()D", sig := { parameters := [], returnType := some .double }, accessFlags := 2, code := some k3c3 }
def k3c4 : Code := { maxStack := 4, maxLocals := 4, code := prog_8_method_11_code, exceptionTable := #[], attributes := #[] }
def k3m4 : Method := { name := "profit", desc := "(I)D", sig := { parameters := [.int], returnType := some .double }, accessFlags := 2, code := some k3c4 }
def k3c5 : Code := { maxStack := 5, maxLocals := 5, code := prog_8_method_12_code, exceptionTable := #[], attributes := #[] }
def k3m5 : Method := { name := "reducedProfit", desc := "(I)D", sig := { parameters := [.int], returnType := some .double }, accessFlags := 2, code := some k3c5 }
def k3c6 : Code := { maxStack := 6, maxLocals := 6, code := prog_8_method_13_code, exceptionTable := #[], attributes := #[] }
def k3m6 : Method := { name := "computeMultipliers", desc := "()V", sig := { parameters := [], returnType := none }, accessFlags := 2, code := some k3c6 }
def k3c7 : Code := { maxStack := 4, maxLocals := 8, code := prog_8_method_14_code, exceptionTable := #[], attributes := #[] }
def k3m7 : Method := { name := "bestCandidate", desc := "()I", sig := { parameters := [], returnType := some .int }, accessFlags := 2, code := some k3c7 }
def k3c8 : Code := { maxStack := 5, maxLocals := 12, code := prog_8_method_15_code, exceptionTable := #[], attributes := #[] }
def k3m8 : Method := { name := "price", desc := "(I)I", sig := { parameters := [.int], returnType := some .int }, accessFlags := 2, code := some k3c8 }
def k3c9 : Code := { maxStack := 4, maxLocals := 6, code := prog_8_method_17_code, exceptionTable := #[], attributes := #[] }
def k3m9 : Method := { name := "offer", desc := "(ID)Z", sig := { parameters := [.int, .double], returnType := some .boolean }, accessFlags := 2, code := some k3c9 }
def k3c10 : Code := { maxStack := 6, maxLocals := 10, code := prog_8_method_18_code, exceptionTable := #[], attributes := #[] }
def k3m10 : Method := { name := "leavingRow", desc := "(IZ)I", sig := { parameters := [.int, .boolean], returnType := some .int }, accessFlags := 2, code := some k3c10 }
def k3c11 : Code := { maxStack := 8, maxLocals := 14, code := prog_8_method_19_code, exceptionTable := #[], attributes := #[] }
def k3m11 : Method := { name := "pivot", desc := "(IIDD)V", sig := { parameters := [.int, .int, .double, .double], returnType := none }, accessFlags := 2, code := some k3c11 }
def k3c12 : Code := { maxStack := 4, maxLocals := 5, code := prog_8_method_21_code, exceptionTable := #[], attributes := #[] }
def k3m12 : Method := { name := "startFromSlacks", desc := "()V", sig := { parameters := [], returnType := none }, accessFlags := 2, code := some k3c12 }
def k3c13 : Code := { maxStack := 8, maxLocals := 8, code := prog_8_method_22_code, exceptionTable := #[], attributes := #[] }
def k3m13 : Method := { name := "bound", desc := "()D", sig := { parameters := [], returnType := some .double }, accessFlags := 2, code := some k3c13 }
/-- com/example/quorumstone/quorumstone/check/Relaxation -/
def k3 : Class := { plain "com/example/quorumstone/quorumstone/check/Relaxation" (some 0) with
  accessFlags := 48
  interfaces := #[]
  cf := some (fileOf pool3 1 #[] #[{ accessFlags := 0, nameIndex := 5, descriptorIndex := 6, attributes := #[] }, { accessFlags := 0, nameIndex := 226, descriptorIndex := 227, attributes := #[] }, { accessFlags := 0, nameIndex := 230, descriptorIndex := 231, attributes := #[] }, { accessFlags := 2, nameIndex := 114, descriptorIndex := 115, attributes := #[] }, { accessFlags := 2, nameIndex := 181, descriptorIndex := 136, attributes := #[] }, { accessFlags := 2, nameIndex := 135, descriptorIndex := 136, attributes := #[] }, { accessFlags := 2, nameIndex := 184, descriptorIndex := 11, attributes := #[] }, { accessFlags := 2, nameIndex := 128, descriptorIndex := 129, attributes := #[] }, { accessFlags := 2, nameIndex := 132, descriptorIndex := 125, attributes := #[] }, { accessFlags := 2, nameIndex := 187, descriptorIndex := 188, attributes := #[] }, { accessFlags := 2, nameIndex := 139, descriptorIndex := 140, attributes := #[] }, { accessFlags := 2, nameIndex := 151, descriptorIndex := 152, attributes := #[] }, { accessFlags := 2, nameIndex := 98, descriptorIndex := 11, attributes := #[] }, { accessFlags := 2, nameIndex := 158, descriptorIndex := 115, attributes := #[] }] 48 8 #[] #[{ accessFlags := 26, nameIndex := 207, descriptorIndex := 208, attributes := #[] }, { accessFlags := 26, nameIndex := 210, descriptorIndex := 208, attributes := #[] }, { accessFlags := 26, nameIndex := 211, descriptorIndex := 38, attributes := #[] }, { accessFlags := 26, nameIndex := 213, descriptorIndex := 38, attributes := #[] }, { accessFlags := 26, nameIndex := 215, descriptorIndex := 38, attributes := #[] }, { accessFlags := 26, nameIndex := 217, descriptorIndex := 38, attributes := #[] }, { accessFlags := 26, nameIndex := 219, descriptorIndex := 38, attributes := #[] }, { accessFlags := 18, nameIndex := 41, descriptorIndex := 38, attributes := #[] }, { accessFlags := 18, nameIndex := 44, descriptorIndex := 15, attributes := #[] }, { accessFlags := 18, nameIndex := 59, descriptorIndex := 15, attributes := #[] }, { accessFlags := 18, nameIndex := 68, descriptorIndex := 15, attributes := #[] }, { accessFlags := 18, nameIndex := 47, descriptorIndex := 15, attributes := #[] }, { accessFlags := 18, nameIndex := 50, descriptorIndex := 15, attributes := #[] }, { accessFlags := 18, nameIndex := 53, descriptorIndex := 15, attributes := #[] }, { accessFlags := 18, nameIndex := 56, descriptorIndex := 38, attributes := #[] }, { accessFlags := 18, nameIndex := 74, descriptorIndex := 15, attributes := #[] }, { accessFlags := 18, nameIndex := 77, descriptorIndex := 15, attributes := #[] }, { accessFlags := 18, nameIndex := 80, descriptorIndex := 19, attributes := #[] }, { accessFlags := 18, nameIndex := 83, descriptorIndex := 21, attributes := #[] }, { accessFlags := 18, nameIndex := 86, descriptorIndex := 19, attributes := #[] }, { accessFlags := 18, nameIndex := 89, descriptorIndex := 19, attributes := #[] }, { accessFlags := 18, nameIndex := 92, descriptorIndex := 19, attributes := #[] }, { accessFlags := 18, nameIndex := 95, descriptorIndex := 19, attributes := #[] }, { accessFlags := 18, nameIndex := 14, descriptorIndex := 15, attributes := #[] }, { accessFlags := 18, nameIndex := 18, descriptorIndex := 19, attributes := #[] }, { accessFlags := 2, nameIndex := 118, descriptorIndex := 38, attributes := #[] }, { accessFlags := 18, nameIndex := 37, descriptorIndex := 38, attributes := #[] }, { accessFlags := 2, nameIndex := 121, descriptorIndex := 38, attributes := #[] }, { accessFlags := 2, nameIndex := 191, descriptorIndex := 38, attributes := #[] }, { accessFlags := 2, nameIndex := 24, descriptorIndex := 25, attributes := #[] }, { accessFlags := 2, nameIndex := 29, descriptorIndex := 30, attributes := #[] }, { accessFlags := 2, nameIndex := 34, descriptorIndex := 21, attributes := #[] }, { accessFlags := 2, nameIndex := 155, descriptorIndex := 38, attributes := #[] }, { accessFlags := 2, nameIndex := 101, descriptorIndex := 102, attributes := #[] }, { accessFlags := 2, nameIndex := 105, descriptorIndex := 106, attributes := #[] }])
  fields := #[{ name := "TOLERANCE", type := .double, accessFlags := 26, slot := 0, constantValue := 0 }, { name := "PIVOT", type := .double, accessFlags := 26, slot := 1, constantValue := 0 }, { name := "PIVOTS_PER_REFACTOR", type := .int, accessFlags := 26, slot := 2, constantValue := 0 }, { name := "DEGENERATE_BEFORE_BLAND", type := .int, accessFlags := 26, slot := 3, constantValue := 0 }, { name := "PIVOTS_PER_ROW", type := .int, accessFlags := 26, slot := 4, constantValue := 0 }, { name := "CANDIDATES", type := .int, accessFlags := 26, slot := 5, constantValue := 0 }, { name := "DEMANDS_PER_PASS", type := .int, accessFlags := 26, slot := 6, constantValue := 0 }, { name := "rows", type := .int, accessFlags := 18, slot := 0, constantValue := 0 }, { name := "classSize", type := (.array .int), accessFlags := 18, slot := 1, constantValue := 0 }, { name := "demandStart", type := (.array .int), accessFlags := 18, slot := 2, constantValue := 0 }, { name := "demandClass", type := (.array .int), accessFlags := 18, slot := 3, constantValue := 0 }, { name := "need", type := (.array .int), accessFlags := 18, slot := 4, constantValue := 0 }, { name := "taken", type := (.array .int), accessFlags := 18, slot := 5, constantValue := 0 }, { name := "shortDemands", type := (.array .int), accessFlags := 18, slot := 6, constantValue := 0 }, { name := "demands", type := .int, accessFlags := 18, slot := 7, constantValue := 0 }, { name := "basicRow", type := (.array .int), accessFlags := 18, slot := 8, constantValue := 0 }, { name := "basic", type := (.array .int), accessFlags := 18, slot := 9, constantValue := 0 }, { name := "value", type := (.array .double), accessFlags := 18, slot := 10, constantValue := 0 }, { name := "inverse", type := (.array (.array .double)), accessFlags := 18, slot := 11, constantValue := 0 }, { name := "basicProfit", type := (.array .double), accessFlags := 18, slot := 12, constantValue := 0 }, { name := "multiplier", type := (.array .double), accessFlags := 18, slot := 13, constantValue := 0 }, { name := "entering", type := (.array .double), accessFlags := 18, slot := 14, constantValue := 0 }, { name := "load", type := (.array .double), accessFlags := 18, slot := 15, constantValue := 0 }, { name := "candidates", type := (.array .int), accessFlags := 18, slot := 16, constantValue := 0 }, { name := "candidateProfit", type := (.array .double), accessFlags := 18, slot := 17, constantValue := 0 }, { name := "candidateCount", type := .int, accessFlags := 2, slot := 18, constantValue := 0 }, { name := "demandsPerPass", type := .int, accessFlags := 18, slot := 19, constantValue := 0 }, { name := "nextDemand", type := .int, accessFlags := 2, slot := 20, constantValue := 0 }, { name := "weakest", type := .int, accessFlags := 2, slot := 21, constantValue := 0 }, { name := "keptInverse", type := (.array (.array (.array .double))), accessFlags := 2, slot := 22, constantValue := 0 }, { name := "keptBasic", type := (.array (.array .int)), accessFlags := 2, slot := 23, constantValue := 0 }, { name := "keptValue", type := (.array (.array .double)), accessFlags := 2, slot := 24, constantValue := 0 }, { name := "pivotsSinceRefactor", type := .int, accessFlags := 2, slot := 25, constantValue := 0 }, { name := "undecided", type := .long, accessFlags := 2, slot := 26, constantValue := 0 }, { name := "optimal", type := .boolean, accessFlags := 2, slot := 27, constantValue := 0 }]
  methods := #[k3m0, k3m1, k3m2, k3m3, k3m4, k3m5, k3m6, k3m7, k3m8, k3m9, k3m10, k3m11, k3m12, k3m13]
  instanceTypes := #[.int, (.array .int), (.array .int), (.array .int), (.array .int), (.array .int), (.array .int), .int, (.array .int), (.array .int), (.array .double), (.array (.array .double)), (.array .double), (.array .double), (.array .double), (.array .double), (.array .int), (.array .double), .int, .int, .int, .int, (.array (.array (.array .double))), (.array (.array .int)), (.array (.array .double)), .int, .long, .boolean]
  staticTypes := #[.double, .double, .int, .int, .int, .int, .int]
  resolved := Array.replicate 237 none
  statics := none }

def pool4 : Array CpInfo := pool [(1, .class_ 2), (0, u "java/io/Serializable"), (0, .class_ 4), (0, u "java/lang/Object")] 2

/-- java/io/Serializable -/
def k4 : Class := { plain "java/io/Serializable" (some 0) with
  accessFlags := 1537
  interfaces := #[]
  cf := some (fileOf pool4 1 #[] #[] 1537 3 #[] #[])
  fields := #[]
  methods := #[]
  instanceTypes := #[]
  staticTypes := #[]
  resolved := Array.replicate 7 none
  statics := none }

def pool5 : Array CpInfo := pool [(2, .class_ 4), (1, u "java/lang/Object"), (0, u "<init>"), (0, u "()V"), (1, .class_ 10), (1, u "java/lang/Number"), (2, .class_ 14), (0, u "java/io/Serializable"), (0, u "serialVersionUID"), (0, u "J")] 20

def k5m0 : Method := { name := "<init>", desc := "()V", sig := { parameters := [], returnType := none }, accessFlags := 1, code := none }
/-- java/lang/Number -/
def k5 : Class := { plain "java/lang/Number" (some 0) with
  accessFlags := 1057
  interfaces := #[4]
  cf := some (fileOf pool5 8 #[] #[{ accessFlags := 1, nameIndex := 5, descriptorIndex := 6, attributes := #[] }] 1057 2 #[13] #[{ accessFlags := 26, nameIndex := 15, descriptorIndex := 16, attributes := #[] }])
  fields := #[{ name := "serialVersionUID", type := .long, accessFlags := 26, slot := 0, constantValue := 0 }]
  methods := #[k5m0]
  instanceTypes := #[]
  staticTypes := #[.long]
  resolved := Array.replicate 37 none
  statics := none }

def pool6 : Array CpInfo := pool [(1, .class_ 2), (0, u "java/lang/Comparable"), (0, .class_ 4), (0, u "java/lang/Object")] 7

/-- java/lang/Comparable -/
def k6 : Class := { plain "java/lang/Comparable" (some 0) with
  accessFlags := 1537
  interfaces := #[]
  cf := some (fileOf pool6 1 #[] #[] 1537 3 #[] #[])
  fields := #[]
  methods := #[]
  instanceTypes := #[]
  staticTypes := #[]
  resolved := Array.replicate 12 none
  statics := none }

def pool7 : Array CpInfo := pool [(1, .class_ 2), (0, u "java/lang/constant/Constable"), (0, .class_ 4), (0, u "java/lang/Object")] 6

/-- java/lang/constant/Constable -/
def k7 : Class := { plain "java/lang/constant/Constable" (some 0) with
  accessFlags := 1537
  interfaces := #[]
  cf := some (fileOf pool7 1 #[] #[] 1537 3 #[] #[])
  fields := #[]
  methods := #[]
  instanceTypes := #[]
  staticTypes := #[]
  resolved := Array.replicate 11 none
  statics := none }

def pool8 : Array CpInfo := pool [(1, .class_ 2), (0, u "java/lang/constant/ConstantDesc"), (0, .class_ 4), (0, u "java/lang/Object")] 32

/-- java/lang/constant/ConstantDesc -/
def k8 : Class := { plain "java/lang/constant/ConstantDesc" (some 0) with
  accessFlags := 1537
  interfaces := #[]
  cf := some (fileOf pool8 1 #[] #[] 1537 3 #[] #[])
  fields := #[]
  methods := #[]
  instanceTypes := #[]
  staticTypes := #[]
  resolved := Array.replicate 37 none
  statics := none }

def pool9 : Array CpInfo := pool [(1, .class_ 2), (0, u "java/lang/Long"), (15, .class_ 20), (1, u "java/lang/Integer"), (80, u "(J)I"), (133, .class_ 237), (1, u "java/lang/Long$LongCache"), (33, .class_ 272), (0, u "java/lang/Number"), (2, u "value"), (0, u "J"), (33, u "(I)I"), (0, .methodref 18 312), (0, .nameAndType 313 310), (0, u "numberOfTrailingZeros"), (0, .long 6148914691236517205), (1, .long 3689348814741910323), (1, .long 1085102592571150095), (42, u "TYPE"), (0, u "Ljava/lang/Class;"), (0, .class_ 364), (0, u "java/lang/Comparable"), (0, .class_ 366), (0, u "java/lang/constant/Constable"), (0, .class_ 368), (0, u "java/lang/constant/ConstantDesc"), (0, u "MIN_VALUE"), (1, u "MAX_VALUE"), (4, u "SIZE"), (0, u "I"), (1, u "BYTES"), (1, u "serialVersionUID"), (94, u "bitCount")] 47

def k9c0 : Code := { maxStack := 4, maxLocals := 3, code := jdk_35_method_49_code, exceptionTable := #[], attributes := #[] }
def k9m0 : Method := { name := "numberOfTrailingZeros", desc := "(J)I", sig := { parameters := [.long], returnType := some .int }, accessFlags := 9, code := some k9c0 }
def k9c1 : Code := { maxStack := 6, maxLocals := 2, code := jdk_35_method_50_code, exceptionTable := #[], attributes := #[] }
def k9m1 : Method := { name := "bitCount", desc := "(J)I", sig := { parameters := [.long], returnType := some .int }, accessFlags := 9, code := some k9c1 }
/-- java/lang/Long -/
def k9 : Class := { plain "java/lang/Long" (some 5) with
  accessFlags := 49
  interfaces := #[6, 7, 8]
  cf := some (fileOf pool9 1 #[.nestMembers #[235]] #[{ accessFlags := 9, nameIndex := 313, descriptorIndex := 101, attributes := #[] }, { accessFlags := 9, nameIndex := 476, descriptorIndex := 101, attributes := #[] }] 49 271 #[363, 365, 367] #[{ accessFlags := 25, nameIndex := 369, descriptorIndex := 276, attributes := #[] }, { accessFlags := 25, nameIndex := 371, descriptorIndex := 276, attributes := #[] }, { accessFlags := 25, nameIndex := 361, descriptorIndex := 362, attributes := #[] }, { accessFlags := 18, nameIndex := 275, descriptorIndex := 276, attributes := #[] }, { accessFlags := 25, nameIndex := 376, descriptorIndex := 377, attributes := #[] }, { accessFlags := 25, nameIndex := 379, descriptorIndex := 377, attributes := #[] }, { accessFlags := 26, nameIndex := 381, descriptorIndex := 276, attributes := #[] }])
  fields := #[{ name := "MIN_VALUE", type := .long, accessFlags := 25, slot := 0, constantValue := 0 }, { name := "MAX_VALUE", type := .long, accessFlags := 25, slot := 1, constantValue := 0 }, { name := "TYPE", type := (.object "java/lang/Class"), accessFlags := 25, slot := 2, constantValue := 0 }, { name := "value", type := .long, accessFlags := 18, slot := 0, constantValue := 0 }, { name := "SIZE", type := .int, accessFlags := 25, slot := 3, constantValue := 0 }, { name := "BYTES", type := .int, accessFlags := 25, slot := 4, constantValue := 0 }, { name := "serialVersionUID", type := .long, accessFlags := 26, slot := 5, constantValue := 0 }]
  methods := #[k9m0, k9m1]
  instanceTypes := #[.long]
  staticTypes := #[.long, .long, (.object "java/lang/Class"), .int, .int, .long]
  resolved := Array.replicate 524 none
  statics := none }

def pool10 : Array CpInfo := pool [(1, .class_ 2), (0, u "java/lang/Integer"), (16, u "digits"), (0, u "[C"), (33, u "(I)I"), (30, u "DigitOnes"), (0, u "[B"), (2, u "DigitTens"), (99, .class_ 190), (0, u "java/lang/Integer$IntegerCache"), (3, u "I"), (8, .class_ 204), (0, u "java/lang/Number"), (2, u "value"), (56, .integer 65536), (37, u "TYPE"), (0, u "Ljava/lang/Class;"), (0, .class_ 305), (0, u "java/lang/Comparable"), (0, .class_ 307), (0, u "java/lang/constant/Constable"), (0, .class_ 309), (0, u "java/lang/constant/ConstantDesc"), (0, u "MIN_VALUE"), (1, u "MAX_VALUE"), (3, u "SIZE"), (1, u "BYTES"), (1, u "serialVersionUID"), (0, u "J"), (84, u "numberOfTrailingZeros")] 46

def k10c0 : Code := { maxStack := 3, maxLocals := 2, code := jdk_33_method_48_code, exceptionTable := #[], attributes := #[] }
def k10m0 : Method := { name := "numberOfTrailingZeros", desc := "(I)I", sig := { parameters := [.int], returnType := some .int }, accessFlags := 9, code := some k10c0 }
/-- java/lang/Integer -/
def k10 : Class := { plain "java/lang/Integer" (some 5) with
  accessFlags := 49
  interfaces := #[6, 7, 8]
  cf := some (fileOf pool10 1 #[.nestMembers #[189]] #[{ accessFlags := 9, nameIndex := 406, descriptorIndex := 54, attributes := #[] }] 49 203 #[304, 306, 308] #[{ accessFlags := 25, nameIndex := 310, descriptorIndex := 194, attributes := #[] }, { accessFlags := 25, nameIndex := 312, descriptorIndex := 194, attributes := #[] }, { accessFlags := 25, nameIndex := 302, descriptorIndex := 303, attributes := #[] }, { accessFlags := 24, nameIndex := 19, descriptorIndex := 20, attributes := #[] }, { accessFlags := 24, nameIndex := 89, descriptorIndex := 86, attributes := #[] }, { accessFlags := 24, nameIndex := 85, descriptorIndex := 86, attributes := #[] }, { accessFlags := 18, nameIndex := 207, descriptorIndex := 194, attributes := #[] }, { accessFlags := 25, nameIndex := 316, descriptorIndex := 194, attributes := #[] }, { accessFlags := 25, nameIndex := 318, descriptorIndex := 194, attributes := #[] }, { accessFlags := 26, nameIndex := 320, descriptorIndex := 321, attributes := #[] }])
  fields := #[{ name := "MIN_VALUE", type := .int, accessFlags := 25, slot := 0, constantValue := 0 }, { name := "MAX_VALUE", type := .int, accessFlags := 25, slot := 1, constantValue := 0 }, { name := "TYPE", type := (.object "java/lang/Class"), accessFlags := 25, slot := 2, constantValue := 0 }, { name := "digits", type := (.array .char), accessFlags := 24, slot := 3, constantValue := 0 }, { name := "DigitTens", type := (.array .byte), accessFlags := 24, slot := 4, constantValue := 0 }, { name := "DigitOnes", type := (.array .byte), accessFlags := 24, slot := 5, constantValue := 0 }, { name := "value", type := .int, accessFlags := 18, slot := 0, constantValue := 0 }, { name := "SIZE", type := .int, accessFlags := 25, slot := 6, constantValue := 0 }, { name := "BYTES", type := .int, accessFlags := 25, slot := 7, constantValue := 0 }, { name := "serialVersionUID", type := .long, accessFlags := 26, slot := 8, constantValue := 0 }]
  methods := #[k10m0]
  instanceTypes := #[.int]
  staticTypes := #[.int, .int, (.object "java/lang/Class"), (.array .char), (.array .byte), (.array .byte), .int, .int, .long]
  resolved := Array.replicate 453 none
  statics := none }

def pool11 : Array CpInfo := pool [(2, .class_ 4), (1, u "java/lang/Object"), (0, u "<init>"), (0, u "()V"), (7, .class_ 16), (1, u "java/util/Arrays"), (57, .class_ 76), (1, u "java/util/Arrays$NaturalOrder"), (36, .class_ 115), (1, u "java/util/Arrays$LegacyMergeSort"), (1, u "Z"), (257, .class_ 376), (0, u "java/util/Arrays$ArrayList"), (68, u "$assertionsDisabled"), (269, u "MIN_ARRAY_SORT_GRAN"), (0, u "I"), (2, u "INSERTIONSORT_THRESHOLD"), (120, u "fill"), (4, u "([II)V"), (8, u "([DD)V"), (120, .class_ 976), (0, u "java/util/Arrays$ArrayItr")] 52

def k11m0 : Method := { name := "<init>", desc := "()V", sig := { parameters := [], returnType := none }, accessFlags := 2, code := none }
def k11c1 : Code := { maxStack := 3, maxLocals := 4, code := jdk_65_method_103_code, exceptionTable := #[], attributes := #[] }
def k11m1 : Method := { name := "fill", desc := "([II)V", sig := { parameters := [(.array .int), .int], returnType := none }, accessFlags := 9, code := some k11c1 }
def k11c2 : Code := { maxStack := 4, maxLocals := 5, code := jdk_65_method_113_code, exceptionTable := #[], attributes := #[] }
def k11m2 : Method := { name := "fill", desc := "([DD)V", sig := { parameters := [(.array .double), .double], returnType := none }, accessFlags := 9, code := some k11c2 }
/-- java/util/Arrays -/
def k11 : Class := { plain "java/util/Arrays" (some 0) with
  accessFlags := 49
  interfaces := #[]
  cf := some (fileOf pool11 14 #[.nestMembers #[975, 375, 113, 74]] #[{ accessFlags := 2, nameIndex := 5, descriptorIndex := 6, attributes := #[] }, { accessFlags := 9, nameIndex := 840, descriptorIndex := 845, attributes := #[] }, { accessFlags := 9, nameIndex := 840, descriptorIndex := 854, attributes := #[] }] 49 2 #[] #[{ accessFlags := 26, nameIndex := 715, descriptorIndex := 716, attributes := #[] }, { accessFlags := 26, nameIndex := 719, descriptorIndex := 716, attributes := #[] }, { accessFlags := 4120, nameIndex := 445, descriptorIndex := 117, attributes := #[] }])
  fields := #[{ name := "MIN_ARRAY_SORT_GRAN", type := .int, accessFlags := 26, slot := 0, constantValue := 0 }, { name := "INSERTIONSORT_THRESHOLD", type := .int, accessFlags := 26, slot := 1, constantValue := 0 }, { name := "$assertionsDisabled", type := .boolean, accessFlags := 4120, slot := 2, constantValue := 0 }]
  methods := #[k11m0, k11m1, k11m2]
  instanceTypes := #[]
  staticTypes := #[.int, .int, .boolean]
  resolved := Array.replicate 1029 none
  statics := none }

def pool12 : Array CpInfo := pool [(1, u "java/lang/Cloneable"), (0, .class_ 1), (0, u "java/lang/Object"), (0, .class_ 3)] 3

/-- java/lang/Cloneable -/
def k12 : Class := { plain "java/lang/Cloneable" (some 0) with
  accessFlags := 1537
  interfaces := #[]
  cf := some (fileOf pool12 2 #[] #[] 1537 4 #[] #[])
  fields := #[]
  methods := #[]
  instanceTypes := #[]
  staticTypes := #[]
  resolved := Array.replicate 8 none
  statics := none }

/-- the primitive byte -/
def k13 : Class := { plain "byte" none with kind := .primitive 'B', accessFlags := 0x411 }
/-- [B -/
def k14 : Class := { plain "[B" (some 0) with kind := .array 13 .byte, interfaces := #[12, 4], accessFlags := 1041 }

/-- the primitive double -/
def k15 : Class := { plain "double" none with kind := .primitive 'D', accessFlags := 0x411 }
/-- [D -/
def k16 : Class := { plain "[D" (some 0) with kind := .array 15 .double, interfaces := #[12, 4], accessFlags := 1041 }

/-- the primitive int -/
def k17 : Class := { plain "int" none with kind := .primitive 'I', accessFlags := 0x411 }
/-- [I -/
def k18 : Class := { plain "[I" (some 0) with kind := .array 17 .int, interfaces := #[12, 4], accessFlags := 1041 }

/-- the primitive long -/
def k19 : Class := { plain "long" none with kind := .primitive 'J', accessFlags := 0x411 }
/-- [J -/
def k20 : Class := { plain "[J" (some 0) with kind := .array 19 .long, interfaces := #[12, 4], accessFlags := 1041 }

/-- [[D -/
def k21 : Class := { plain "[[D" (some 0) with kind := .array 16 (.array .double), interfaces := #[12, 4], accessFlags := 1041 }

/-- [[I -/
def k22 : Class := { plain "[[I" (some 0) with kind := .array 18 (.array .int), interfaces := #[12, 4], accessFlags := 1041 }

/-- [[[D -/
def k23 : Class := { plain "[[[D" (some 0) with kind := .array 21 (.array (.array .double)), interfaces := #[12, 4], accessFlags := 1041 }

def heap : Heap := #[]
def classes : Array Class := #[k0, k1, k2, k3, k4, k5, k6, k7, k8, k9, k10, k11, k12, k13, k14, k15, k16, k17, k18, k19, k20, k21, k22, k23]
def interned : List (Array UInt16 × Addr) := []
def slotsUsed : Nat := 0
def theMethod : MethodId := ⟨1, 1⟩
def args0 : Array Value := #[.int 5, .int 3, .int 0, .int 1, .long 7, .int 64]
def aboutOver (below : List Frame) : State where
  vm := { classes := classes, interned := interned.toArray }
  heap := heap
  slotsUsed := slotsUsed
  threads := #[{ frames := .invoking theMethod args0 :: below }]
def below0 : List Frame := [.native { method := ⟨0, 0⟩, args := #[] }]
def about1 : State := aboutOver below0
def p0 : Program := .bare "" "" ""
def e0 : Env := launch0.env 0 0 0
theorem w_frames : about1.frames = Frame.invoking theMethod args0 :: below0 := rfl
set_option maxRecDepth 65536 in
theorem w_args : argsFit about1.vm theMethod args0 = true := by decide +kernel
set_option maxRecDepth 65536 in
theorem w_heap : heapFits about1 = true := by decide +kernel
set_option maxRecDepth 65536 in
theorem w_runnable : about1.curStatus? = some .runnable := by decide +kernel
set_option maxRecDepth 65536 in
theorem w_alone : about1.alone = true := by decide +kernel
set_option maxRecDepth 65536 in
theorem w_named : about1.methodNamed? x = some theMethod := by decide +kernel
set_option maxRecDepth 65536 in
theorem w_hears : about1.hears theMethod below0 = true := by decide +kernel
set_option maxRecDepth 65536 in
theorem w_ripe : about1.ripe theMethod args0 below0 = true := by decide +kernel
theorem w_running : about1.status = .running := rfl
set_option maxRecDepth 65536 in
theorem w_room : about1.hasRoom e0.platform room_1 = true :=
  launch0.hasRoom_least _ room_1 (by decide +kernel) (by decide +kernel) (by decide +kernel) (by decide +kernel) (by decide +kernel) (by decide +kernel)
theorem allAtoms_all (ts : List Jvm.Cond) (a : Array Jvm.Value) (st : Jvm.State) : (allAtoms ts).before a st = ts.all (fun c => c.before a st) := by
  induction ts with
  | nil => rfl
  | cons c t ih =>
    show (Jvm.Cond.and c (allAtoms t)).before a st = _
    rw [Jvm.Cond.before_and, ih, List.all_cons]
def words1 : List Jvm.Cond := Jvm.Cond.code x code maxLocals ret :: tables_1
/-- a 'code' word, met by the world's own term for the bytes: nothing is compared byte by byte -/
theorem code_word {y : MethodName} {bytes : ByteArray} {mx : Nat} {rt : Option FieldType} {a : Array Value} {s : State} {m : MethodId} {meth : Method} {c : Code} (h1 : s.methodNamed? y = some m) (h2 : s.vm.method? m = some meth) (h3 : meth.code = some c) (h4 : c.code = bytes)
    (h5 : (c.maxLocals == mx && c.exceptionTable.isEmpty && decide (c.maxStack ≤ mostOperands) && decide (meth.sig.returnType = rt) && !meth.locks && decide (parseMethodDescriptor y.desc = some meth.sig)) = true) : (Jvm.Cond.code y bytes mx rt).before a s = true := by
  simp only [Bool.and_eq_true, beq_iff_eq, Bool.not_eq_true', decide_eq_true_eq] at h5
  obtain ⟨⟨⟨⟨⟨g1, g2⟩, g3⟩, g4⟩, g5⟩, g6⟩ := h5
  simp [Cond.before, Cond.holds, Cond.value, h1, h2, h3, h4, g1, g2, g3, g4, g5, g6]
def isCode : Jvm.Cond → Bool
  | .code _ _ _ _ => true
  | _ => false
theorem all_split {L : List Jvm.Cond} {P : Jvm.Cond → Bool} (h1 : L.all (fun c => isCode c || P c) = true) (h2 : ∀ c ∈ L.filter isCode, P c = true) : L.all P = true := by
  refine List.all_eq_true.mpr fun c hc => ?_
  have h := List.all_eq_true.mp h1 c hc
  rcases Bool.eq_false_or_eq_true (isCode c) with hi | hi
  · exact h2 c (List.mem_filter.mpr ⟨hc, hi⟩)
  · simpa [hi] using h
set_option maxRecDepth 65536 in
theorem w_c0 : (Jvm.Cond.code x code maxLocals ret).before args0 about1 = true := code_word (m := ⟨1, 1⟩) (meth := k1m1) (c := k1c1) (by decide +kernel) rfl rfl rfl (by decide +kernel)
set_option maxRecDepth 65536 in
theorem w_c1 : (Jvm.Cond.code ({ cls := "java/lang/Math", name := "max", desc := "(II)I" } : Jvm.MethodName) jdk_29_method_65_code (2 : Nat) (Option.some Jvm.ClassFile.FieldType.int)).before args0 about1 = true := code_word (m := ⟨2, 1⟩) (meth := k2m1) (c := k2c1) (by decide +kernel) rfl rfl rfl (by decide +kernel)
set_option maxRecDepth 65536 in
theorem w_c2 : (Jvm.Cond.code ({ cls := "com/example/quorumstone/quorumstone/check/Relaxation", name := "<init>", desc := "([I[J[I[I[II)V" } : Jvm.MethodName) prog_8_method_2_code (11 : Nat) (Option.none : Option Jvm.ClassFile.FieldType)).before args0 about1 = true := code_word (m := ⟨3, 0⟩) (meth := k3m0) (c := k3c0) (by decide +kernel) rfl rfl rfl (by decide +kernel)
set_option maxRecDepth 65536 in
theorem w_c3 : (Jvm.Cond.code ({ cls := "java/lang/Object", name := "<init>", desc := "()V" } : Jvm.MethodName) object_method_1_code (1 : Nat) (Option.none : Option Jvm.ClassFile.FieldType)).before args0 about1 = true := code_word (m := ⟨0, 0⟩) (meth := k0m0) (c := k0c0) (by decide +kernel) rfl rfl rfl (by decide +kernel)
set_option maxRecDepth 65536 in
theorem w_c4 : (Jvm.Cond.code ({ cls := "java/lang/Long", name := "bitCount", desc := "(J)I" } : Jvm.MethodName) jdk_35_method_50_code (2 : Nat) (Option.some Jvm.ClassFile.FieldType.int)).before args0 about1 = true := code_word (m := ⟨9, 1⟩) (meth := k9m1) (c := k9c1) (by decide +kernel) rfl rfl rfl (by decide +kernel)
set_option maxRecDepth 65536 in
theorem w_c5 : (Jvm.Cond.code ({ cls := "java/lang/Long", name := "numberOfTrailingZeros", desc := "(J)I" } : Jvm.MethodName) jdk_35_method_49_code (3 : Nat) (Option.some Jvm.ClassFile.FieldType.int)).before args0 about1 = true := code_word (m := ⟨9, 0⟩) (meth := k9m0) (c := k9c0) (by decide +kernel) rfl rfl rfl (by decide +kernel)
set_option maxRecDepth 65536 in
theorem w_c6 : (Jvm.Cond.code ({ cls := "java/lang/Integer", name := "numberOfTrailingZeros", desc := "(I)I" } : Jvm.MethodName) jdk_33_method_48_code (2 : Nat) (Option.some Jvm.ClassFile.FieldType.int)).before args0 about1 = true := code_word (m := ⟨10, 0⟩) (meth := k10m0) (c := k10c0) (by decide +kernel) rfl rfl rfl (by decide +kernel)
set_option maxRecDepth 65536 in
theorem w_c7 : (Jvm.Cond.code ({ cls := "com/example/quorumstone/quorumstone/check/Relaxation", name := "startFromSlacks", desc := "()V" } : Jvm.MethodName) prog_8_method_21_code (5 : Nat) (Option.none : Option Jvm.ClassFile.FieldType)).before args0 about1 = true := code_word (m := ⟨3, 12⟩) (meth := k3m12) (c := k3c12) (by decide +kernel) rfl rfl rfl (by decide +kernel)
set_option maxRecDepth 65536 in
theorem w_c8 : (Jvm.Cond.code ({ cls := "java/util/Arrays", name := "fill", desc := "([II)V" } : Jvm.MethodName) jdk_65_method_103_code (4 : Nat) (Option.none : Option Jvm.ClassFile.FieldType)).before args0 about1 = true := code_word (m := ⟨11, 1⟩) (meth := k11m1) (c := k11c1) (by decide +kernel) rfl rfl rfl (by decide +kernel)
set_option maxRecDepth 65536 in
theorem w_c9 : (Jvm.Cond.code ({ cls := "java/util/Arrays", name := "fill", desc := "([DD)V" } : Jvm.MethodName) jdk_65_method_113_code (5 : Nat) (Option.none : Option Jvm.ClassFile.FieldType)).before args0 about1 = true := code_word (m := ⟨11, 2⟩) (meth := k11m2) (c := k11c2) (by decide +kernel) rfl rfl rfl (by decide +kernel)
set_option maxRecDepth 65536 in
theorem w_c10 : (Jvm.Cond.code ({ cls := "com/example/quorumstone/quorumstone/check/Relaxation", name := "solve", desc := "(IJD)D" } : Jvm.MethodName) prog_8_method_3_code (17 : Nat) (Option.some Jvm.ClassFile.FieldType.double)).before args0 about1 = true := code_word (m := ⟨3, 1⟩) (meth := k3m1) (c := k3c1) (by decide +kernel) rfl rfl rfl (by decide +kernel)
set_option maxRecDepth 65536 in
theorem w_c11 : (Jvm.Cond.code ({ cls := "com/example/quorumstone/quorumstone/check/Relaxation", name := "startSolve", desc := "()D" } : Jvm.MethodName) prog_8_method_10_code (4 : Nat) (Option.some Jvm.ClassFile.FieldType.double)).before args0 about1 = true := code_word (m := ⟨3, 3⟩) (meth := k3m3) (c := k3c3) (by decide +kernel) rfl rfl rfl (by decide +kernel)
set_option maxRecDepth 65536 in
theorem w_c12 : (Jvm.Cond.code ({ cls := "com/example/quorumstone/quorumstone/check/Relaxation", name := "profit", desc := "(I)D" } : Jvm.MethodName) prog_8_method_11_code (4 : Nat) (Option.some Jvm.ClassFile.FieldType.double)).before args0 about1 = true := code_word (m := ⟨3, 4⟩) (meth := k3m4) (c := k3c4) (by decide +kernel) rfl rfl rfl (by decide +kernel)
set_option maxRecDepth 65536 in
theorem w_c13 : (Jvm.Cond.code ({ cls := "com/example/quorumstone/quorumstone/check/Relaxation", name := "computeMultipliers", desc := "()V" } : Jvm.MethodName) prog_8_method_13_code (6 : Nat) (Option.none : Option Jvm.ClassFile.FieldType)).before args0 about1 = true := code_word (m := ⟨3, 6⟩) (meth := k3m6) (c := k3c6) (by decide +kernel) rfl rfl rfl (by decide +kernel)
set_option maxRecDepth 65536 in
theorem w_c14 : (Jvm.Cond.code ({ cls := "java/lang/Math", name := "max", desc := "(DD)D" } : Jvm.MethodName) jdk_29_method_68_code (4 : Nat) (Option.some Jvm.ClassFile.FieldType.double)).before args0 about1 = true := code_word (m := ⟨2, 2⟩) (meth := k2m2) (c := k2c2) (by decide +kernel) rfl rfl rfl (by decide +kernel)
set_option maxRecDepth 65536 in
theorem w_c15 : (Jvm.Cond.code ({ cls := "com/example/quorumstone/quorumstone/check/Relaxation", name := "bestCandidate", desc := "()I" } : Jvm.MethodName) prog_8_method_14_code (8 : Nat) (Option.some Jvm.ClassFile.FieldType.int)).before args0 about1 = true := code_word (m := ⟨3, 7⟩) (meth := k3m7) (c := k3c7) (by decide +kernel) rfl rfl rfl (by decide +kernel)
set_option maxRecDepth 65536 in
theorem w_c16 : (Jvm.Cond.code ({ cls := "com/example/quorumstone/quorumstone/check/Relaxation", name := "price", desc := "(I)I" } : Jvm.MethodName) prog_8_method_15_code (12 : Nat) (Option.some Jvm.ClassFile.FieldType.int)).before args0 about1 = true := code_word (m := ⟨3, 8⟩) (meth := k3m8) (c := k3c8) (by decide +kernel) rfl rfl rfl (by decide +kernel)
set_option maxRecDepth 65536 in
theorem w_c17 : (Jvm.Cond.code ({ cls := "com/example/quorumstone/quorumstone/check/Relaxation", name := "offer", desc := "(ID)Z" } : Jvm.MethodName) prog_8_method_17_code (6 : Nat) (Option.some Jvm.ClassFile.FieldType.boolean)).before args0 about1 = true := code_word (m := ⟨3, 9⟩) (meth := k3m9) (c := k3c9) (by decide +kernel) rfl rfl rfl (by decide +kernel)
set_option maxRecDepth 65536 in
theorem w_c18 : (Jvm.Cond.code ({ cls := "com/example/quorumstone/quorumstone/check/Relaxation", name := "reducedProfit", desc := "(I)D" } : Jvm.MethodName) prog_8_method_12_code (5 : Nat) (Option.some Jvm.ClassFile.FieldType.double)).before args0 about1 = true := code_word (m := ⟨3, 5⟩) (meth := k3m5) (c := k3c5) (by decide +kernel) rfl rfl rfl (by decide +kernel)
set_option maxRecDepth 65536 in
theorem w_c19 : (Jvm.Cond.code ({ cls := "com/example/quorumstone/quorumstone/check/Relaxation", name := "leavingRow", desc := "(IZ)I" } : Jvm.MethodName) prog_8_method_18_code (10 : Nat) (Option.some Jvm.ClassFile.FieldType.int)).before args0 about1 = true := code_word (m := ⟨3, 10⟩) (meth := k3m10) (c := k3c10) (by decide +kernel) rfl rfl rfl (by decide +kernel)
set_option maxRecDepth 65536 in
theorem w_c20 : (Jvm.Cond.code ({ cls := "com/example/quorumstone/quorumstone/check/Relaxation", name := "pivot", desc := "(IIDD)V" } : Jvm.MethodName) prog_8_method_19_code (14 : Nat) (Option.none : Option Jvm.ClassFile.FieldType)).before args0 about1 = true := code_word (m := ⟨3, 11⟩) (meth := k3m11) (c := k3c11) (by decide +kernel) rfl rfl rfl (by decide +kernel)
set_option maxRecDepth 65536 in
theorem w_c21 : (Jvm.Cond.code ({ cls := "com/example/quorumstone/quorumstone/check/Relaxation", name := "bound", desc := "()D" } : Jvm.MethodName) prog_8_method_22_code (8 : Nat) (Option.some Jvm.ClassFile.FieldType.double)).before args0 about1 = true := code_word (m := ⟨3, 13⟩) (meth := k3m13) (c := k3c13) (by decide +kernel) rfl rfl rfl (by decide +kernel)
set_option maxRecDepth 65536 in
theorem w_c22 : (Jvm.Cond.code ({ cls := "com/example/quorumstone/quorumstone/check/Relaxation", name := "weights", desc := "([I[D)I" } : Jvm.MethodName) prog_8_method_7_code (6 : Nat) (Option.some Jvm.ClassFile.FieldType.int)).before args0 about1 = true := code_word (m := ⟨3, 2⟩) (meth := k3m2) (c := k3c2) (by decide +kernel) rfl rfl rfl (by decide +kernel)
def codes1 : List Jvm.Cond := [Jvm.Cond.code x code maxLocals ret, Jvm.Cond.code ({ cls := "java/lang/Math", name := "max", desc := "(II)I" } : Jvm.MethodName) jdk_29_method_65_code (2 : Nat) (Option.some Jvm.ClassFile.FieldType.int), Jvm.Cond.code ({ cls := "com/example/quorumstone/quorumstone/check/Relaxation", name := "<init>", desc := "([I[J[I[I[II)V" } : Jvm.MethodName) prog_8_method_2_code (11 : Nat) (Option.none : Option Jvm.ClassFile.FieldType), Jvm.Cond.code ({ cls := "java/lang/Object", name := "<init>", desc := "()V" } : Jvm.MethodName) object_method_1_code (1 : Nat) (Option.none : Option Jvm.ClassFile.FieldType), Jvm.Cond.code ({ cls := "java/lang/Long", name := "bitCount", desc := "(J)I" } : Jvm.MethodName) jdk_35_method_50_code (2 : Nat) (Option.some Jvm.ClassFile.FieldType.int), Jvm.Cond.code ({ cls := "java/lang/Long", name := "numberOfTrailingZeros", desc := "(J)I" } : Jvm.MethodName) jdk_35_method_49_code (3 : Nat) (Option.some Jvm.ClassFile.FieldType.int), Jvm.Cond.code ({ cls := "java/lang/Integer", name := "numberOfTrailingZeros", desc := "(I)I" } : Jvm.MethodName) jdk_33_method_48_code (2 : Nat) (Option.some Jvm.ClassFile.FieldType.int), Jvm.Cond.code ({ cls := "com/example/quorumstone/quorumstone/check/Relaxation", name := "startFromSlacks", desc := "()V" } : Jvm.MethodName) prog_8_method_21_code (5 : Nat) (Option.none : Option Jvm.ClassFile.FieldType), Jvm.Cond.code ({ cls := "java/util/Arrays", name := "fill", desc := "([II)V" } : Jvm.MethodName) jdk_65_method_103_code (4 : Nat) (Option.none : Option Jvm.ClassFile.FieldType), Jvm.Cond.code ({ cls := "java/util/Arrays", name := "fill", desc := "([DD)V" } : Jvm.MethodName) jdk_65_method_113_code (5 : Nat) (Option.none : Option Jvm.ClassFile.FieldType), Jvm.Cond.code ({ cls := "com/example/quorumstone/quorumstone/check/Relaxation", name := "solve", desc := "(IJD)D" } : Jvm.MethodName) prog_8_method_3_code (17 : Nat) (Option.some Jvm.ClassFile.FieldType.double), Jvm.Cond.code ({ cls := "com/example/quorumstone/quorumstone/check/Relaxation", name := "startSolve", desc := "()D" } : Jvm.MethodName) prog_8_method_10_code (4 : Nat) (Option.some Jvm.ClassFile.FieldType.double), Jvm.Cond.code ({ cls := "com/example/quorumstone/quorumstone/check/Relaxation", name := "profit", desc := "(I)D" } : Jvm.MethodName) prog_8_method_11_code (4 : Nat) (Option.some Jvm.ClassFile.FieldType.double), Jvm.Cond.code ({ cls := "com/example/quorumstone/quorumstone/check/Relaxation", name := "computeMultipliers", desc := "()V" } : Jvm.MethodName) prog_8_method_13_code (6 : Nat) (Option.none : Option Jvm.ClassFile.FieldType), Jvm.Cond.code ({ cls := "java/lang/Math", name := "max", desc := "(DD)D" } : Jvm.MethodName) jdk_29_method_68_code (4 : Nat) (Option.some Jvm.ClassFile.FieldType.double), Jvm.Cond.code ({ cls := "com/example/quorumstone/quorumstone/check/Relaxation", name := "bestCandidate", desc := "()I" } : Jvm.MethodName) prog_8_method_14_code (8 : Nat) (Option.some Jvm.ClassFile.FieldType.int), Jvm.Cond.code ({ cls := "com/example/quorumstone/quorumstone/check/Relaxation", name := "price", desc := "(I)I" } : Jvm.MethodName) prog_8_method_15_code (12 : Nat) (Option.some Jvm.ClassFile.FieldType.int), Jvm.Cond.code ({ cls := "com/example/quorumstone/quorumstone/check/Relaxation", name := "offer", desc := "(ID)Z" } : Jvm.MethodName) prog_8_method_17_code (6 : Nat) (Option.some Jvm.ClassFile.FieldType.boolean), Jvm.Cond.code ({ cls := "com/example/quorumstone/quorumstone/check/Relaxation", name := "reducedProfit", desc := "(I)D" } : Jvm.MethodName) prog_8_method_12_code (5 : Nat) (Option.some Jvm.ClassFile.FieldType.double), Jvm.Cond.code ({ cls := "com/example/quorumstone/quorumstone/check/Relaxation", name := "leavingRow", desc := "(IZ)I" } : Jvm.MethodName) prog_8_method_18_code (10 : Nat) (Option.some Jvm.ClassFile.FieldType.int), Jvm.Cond.code ({ cls := "com/example/quorumstone/quorumstone/check/Relaxation", name := "pivot", desc := "(IIDD)V" } : Jvm.MethodName) prog_8_method_19_code (14 : Nat) (Option.none : Option Jvm.ClassFile.FieldType), Jvm.Cond.code ({ cls := "com/example/quorumstone/quorumstone/check/Relaxation", name := "bound", desc := "()D" } : Jvm.MethodName) prog_8_method_22_code (8 : Nat) (Option.some Jvm.ClassFile.FieldType.double), Jvm.Cond.code ({ cls := "com/example/quorumstone/quorumstone/check/Relaxation", name := "weights", desc := "([I[D)I" } : Jvm.MethodName) prog_8_method_7_code (6 : Nat) (Option.some Jvm.ClassFile.FieldType.int)]
set_option maxRecDepth 65536 in
theorem codes_eq : words1.filter isCode = codes1 := rfl
theorem w_codes : ∀ c ∈ words1.filter isCode, c.before args0 about1 = true := by
  rw [codes_eq]
  intro c hc
  simp only [codes1, List.mem_cons, List.not_mem_nil, or_false] at hc
  rcases hc with rfl | rfl | rfl | rfl | rfl | rfl | rfl | rfl | rfl | rfl | rfl | rfl | rfl | rfl | rfl | rfl | rfl | rfl | rfl | rfl | rfl | rfl | rfl
  · exact w_c0
  · exact w_c1
  · exact w_c2
  · exact w_c3
  · exact w_c4
  · exact w_c5
  · exact w_c6
  · exact w_c7
  · exact w_c8
  · exact w_c9
  · exact w_c10
  · exact w_c11
  · exact w_c12
  · exact w_c13
  · exact w_c14
  · exact w_c15
  · exact w_c16
  · exact w_c17
  · exact w_c18
  · exact w_c19
  · exact w_c20
  · exact w_c21
  · exact w_c22
set_option maxRecDepth 65536 in
theorem w_t1 : (words1.take 24).all (fun c => isCode c || c.before args0 about1) = true := by decide +kernel
set_option maxRecDepth 65536 in
theorem w_t2 : ((words1.drop 24).take 24).all (fun c => isCode c || c.before args0 about1) = true := by decide +kernel
set_option maxRecDepth 65536 in
theorem w_t3 : (((words1.drop 24).drop 24).take 24).all (fun c => isCode c || c.before args0 about1) = true := by decide +kernel
set_option maxRecDepth 65536 in
theorem w_t4 : ((((words1.drop 24).drop 24).drop 24).take 24).all (fun c => isCode c || c.before args0 about1) = true := by decide +kernel
set_option maxRecDepth 65536 in
theorem w_t5 : (((((words1.drop 24).drop 24).drop 24).drop 24).take 24).all (fun c => isCode c || c.before args0 about1) = true := by decide +kernel
set_option maxRecDepth 65536 in
theorem w_t6 : ((((((words1.drop 24).drop 24).drop 24).drop 24).drop 24).take 24).all (fun c => isCode c || c.before args0 about1) = true := by decide +kernel
set_option maxRecDepth 65536 in
theorem w_t7 : ((((((words1.drop 24).drop 24).drop 24).drop 24).drop 24).drop 24).all (fun c => isCode c || c.before args0 about1) = true := by decide +kernel
theorem w_tables : (allAtoms (Jvm.Cond.code x code maxLocals ret :: tables_1)).before args0 about1 = true := by
  rw [allAtoms_all]
  show words1.all (fun c => c.before args0 about1) = true
  refine all_split ?_ w_codes
  rw [← List.take_append_drop 24 words1, List.all_append, w_t1, ← List.take_append_drop 24 (words1.drop 24), List.all_append, w_t2, ← List.take_append_drop 24 ((words1.drop 24).drop 24), List.all_append, w_t3, ← List.take_append_drop 24 (((words1.drop 24).drop 24).drop 24), List.all_append, w_t4, ← List.take_append_drop 24 ((((words1.drop 24).drop 24).drop 24).drop 24), List.all_append, w_t5, ← List.take_append_drop 24 (((((words1.drop 24).drop 24).drop 24).drop 24).drop 24), List.all_append, w_t6, w_t7]
  rfl
set_option maxRecDepth 65536 in
theorem w_case : (Jvm.Cond.and given_1 narrow_1).before args0 about1 = true := by decide +kernel
theorem w_applies : (headSpec (Jvm.Cond.code x code maxLocals ret :: tables_1) room_1).applies x e0.platform about1 = true :=
  (Spec.applies_iff w_frames).mpr ⟨w_running, w_runnable, w_alone, w_named, w_hears, w_ripe, w_room, w_tables⟩
theorem atStart : AtStart classFile x code maxLocals ret World_1 tables_1 room_1 Calls_1 rest_1 Pre_1 launch0 p0 e0 about1 theMethod args0 below0 :=
  ⟨lists_1, trivial, launch0.admits_env _ _ _, launch0.least_env, fairChoices_fair.cas, fairChoices_fair.clock, w_frames, w_args, w_heap, w_applies, trivial, trivial, w_case⟩
end start1
theorem witness_1 : WitnessClaimed_1 := ⟨start1.p0, start1.e0, start1.about1, start1.theMethod, start1.args0, start1.below0, start1.atStart⟩
end Jvm.Pilot.@@N@@
