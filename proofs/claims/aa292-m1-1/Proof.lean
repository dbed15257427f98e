import JvmDerived
import JvmDerived.Pilot.@@N@@Statement
import JvmDerived.Pilot.@@N@@Code
set_option linter.unusedVariables false
set_option linter.unusedSimpArgs false
namespace Jvm.GoKit
open Sem ClassFile Op Lib Jvm.Stand Jvm.Free Jvm.LawKit Jvm.RoadKit
abbrev GT := Heap → Nat → Nat → Nat → Array Slot → List Value → Prop
def Ctr (l : Launch) (Z : State) (y : MethodName) (bytes : ByteArray) (maxL : Nat) (ret : Option FieldType) (R : Room) (n0 : Nat) (as : Array Value) (h0 : Heap) (Q : Option Value → Heap → Prop) (wl : List Jvm.Cond) : Prop :=
  MetFree l y (head1 (Jvm.Cond.code y bytes maxL ret :: wl) R) (fun a U => a = as ∧ Z.Warmed39 U.vm ∧ U.heap = h0) (fun _ _ _ _ _ => True)
    (fun _ U o U' => ∃ v L, o = .returned v ∧ (Q v U'.heap ∧ Fr n0 L) ∧ FrameEnd U o U' L R.cells R.slots)
def Go (p : Program) (l : Launch) (e : Env) (R : Room) (s : State) (m : MethodId) (args : Array Value) (below : List Frame) (meth : Method) (c : Code) (n0 : Nat) (Q : Option Value → Heap → Prop) : GT :=
  fun h k n pc ls st => ∀ T locs, Stand p l e R s m args below meth c T locs k n → T.heap = h → Fr n0 locs →
    ∃ s₂ o, Steps p.tables e below (T.setTop (mkF m pc ls st)) s₂ ∧ s₂.status = .running ∧ Ended s₂ below o ∧ ∃ v L, o = .returned v ∧ (Q v s₂.heap ∧ Fr n0 L) ∧ FrameEnd s o s₂ L R.cells R.slots
def Cx (G : GT) (l : Launch) (Z : State) (a0 : Array Value) (ws : List Jvm.Cond) (R : Room) (y : MethodName) (bytes : ByteArray) (maxL : Nat) (ret : Option FieldType) (n0 : Nat) (Q : Option Value → Heap → Prop) : Prop :=
  ∃ p e s m args below meth c, p.tables.exec = Jvm.exec ∧ c.code = bytes ∧ c.maxLocals = maxL ∧ s.vm.findClass y.cls = some m.cls ∧ meth.name = y.name ∧ meth.sig.returnType = ret ∧ meth.locks = false ∧ Z.Warmed39 s.vm ∧ (∀ d ∈ ws, d.before a0 Z = true) ∧ G = Go p l e R s m args below meth c n0 Q
def lay : List Value → List Slot
  | [] => []
  | v :: vs => if v.category = 2 then .val v :: .second :: lay vs else .val v :: lay vs
theorem lay_fold : ∀ (vs : List Value) (acc : Array Slot), vs.foldl (fun (acc : Array Slot) v => if v.category = 2 then (acc.push (.val v)).push .second else acc.push (.val v)) acc = acc ++ (lay vs).toArray
  | [], acc => by simp [lay]
  | v :: vs, acc => by
    rw [List.foldl_cons, lay_fold vs, show lay (v :: vs) = (if v.category = 2 then Slot.val v :: .second :: lay vs else .val v :: lay vs) from rfl]
    split <;> simp
theorem entry_eq (m : MethodId) {as : Array Value} {maxL k : Nat} {L1 : List Slot} {ls : Array Slot} (h1 : lay as.toList = L1) (h2 : L1.length + k = maxL) (h3 : (L1 ++ List.replicate k Slot.unset).toArray = ls) : entryFrame m as maxL = mkF m 0 ls [] := by
  subst h1 h2 h3
  unfold entryFrame argsToLocals
  have e : as.foldl (init := #[]) (fun (acc : Array Slot) v => if v.category = 2 then (acc.push (.val v)).push .second else acc.push (.val v)) = (lay as.toList).toArray := by
    rw [← Array.foldl_toList, lay_fold]; simp
  simp only [e]
  simp [mkF]
theorem Ctr.of {l : Launch} {Z : State} {a0 : Array Value} {ws : List Jvm.Cond} {R : Room} {y : MethodName} {bytes : ByteArray} {maxL : Nat} {ret : Option FieldType} {n0 : Nat} {Q : Option Value → Heap → Prop} {as : Array Value} {h0 : Heap} {wl : List Jvm.Cond} {ls : Array Slot}
    (hn : plainFor y = true) (hw : ∀ d ∈ ws, d.before a0 Z = true) (he : ∀ m, entryFrame m as maxL = mkF m 0 ls []) (H : ∀ G, Cx G l Z a0 ws R y bytes maxL ret n0 Q → G h0 0 0 0 ls []) : Ctr l Z y bytes maxL ret R n0 as h0 Q wl := by
  refine MetFree.of_bodySF hn hisR ?_
  intro p e s m args below meth c s₁ Bd hml0 hP hK
  obtain ⟨rfl, hZ, hh⟩ := hP
  have X0 : Stand p l e R s m args below meth c s₁ [] 0 0 := Stand.of_body Bd
  have e0 : s₁.heap = h0 := by rw [← hh, Bd.state]; rfl
  obtain ⟨s₂, o, h1, h2, h3, h4⟩ := H (Go p l e R s m args below meth c n0 Q) ⟨p, e, s, m, args, below, meth, c, Bd.exec, Bd.bytes, hml0, findClass_of_methodNamed Bd.named, (name_of_methodNamed Bd.named Bd.method).1, Bd.returns, Bd.notSynchronized, hZ, hw, rfl⟩ s₁ [] X0 e0 (Fr.nil n0)
  exact ⟨s₂, o, castTop (he m) h1, h2, h3, h4⟩
theorem Ctr.mono {l : Launch} {Z : State} {R : Room} {y : MethodName} {bytes : ByteArray} {maxL : Nat} {ret : Option FieldType} {n0 : Nat} {Q Q' : Option Value → Heap → Prop} {as : Array Value} {h0 : Heap} {wl : List Jvm.Cond} (H : Ctr l Z y bytes maxL ret R n0 as h0 Q wl) (hq : ∀ v h, Q v h → Q' v h) : Ctr l Z y bytes maxL ret R n0 as h0 Q' wl := by
  intro p e ha hc hk s m args below hf happ hP hK
  obtain ⟨n, o, h1, h2, h3, v, L, h4, h5, h6⟩ := H p e ha hc hk s m args below hf happ hP hK
  exact ⟨n, o, h1, h2, h3, v, L, h4, ⟨hq _ _ h5.1, h5.2⟩, h6⟩
section Laws
variable {G : GT} {k' n' : Nat} {l : Launch} {Z : State} {a0 : Array Value} {ws : List Jvm.Cond} {R : Room} {y : MethodName} {bytes : ByteArray} {maxL : Nat} {ret : Option FieldType} {n0 : Nat} {Q : Option Value → Heap → Prop} {h : Heap} {k n pc pc' pc1 pc2 : Nat} {ls ls' : Array Slot} {st rest : List Value}
theorem lift {p : Program} {e : Env} {s : State} {m : MethodId} {args : Array Value} {below : List Frame} {meth : Method} {c : Code} {st' : List Value}
    (H : ∀ T locs, Stand p l e R s m args below meth c T locs k n → T.heap = h → ∀ target, Steps p.tables e below (T.setTop (mkF m pc' ls' st')) target → Steps p.tables e below (T.setTop (mkF m pc ls st)) target)
    (hr : Go p l e R s m args below meth c n0 Q h k n pc' ls' st') : Go p l e R s m args below meth c n0 Q h k n pc ls st := by
  intro T locs X hT hF
  obtain ⟨s₂, o, h1, h2⟩ := hr T locs X hT hF
  exact ⟨s₂, o, H T locs X hT s₂ h1, h2⟩
theorem word {d : Jvm.Cond} {i : Nat} (hw : ∀ d ∈ ws, d.before a0 Z = true) (hi : ws[i]? = some d) : d.before a0 Z = true := hw _ (List.mem_of_getElem? hi)
theorem Cx.iload (C : Cx G l Z a0 ws R y bytes maxL ret n0 Q) {j : Nat} {v : Int32} (hd : decode bytes pc = .ok (.iload j, 2)) (hl : ls[j]? = some (.val (.int v))) (hp : pc + 2 = pc') (hr : G h k n pc' ls (.int v :: st)) : G h k n pc ls (st) := by
  obtain ⟨p, e, s, m, args, below, meth, c, hx, hby, hml, hown, hnm, hret, hlk, hZ, hw, rfl⟩ := C
  subst hp
  exact lift (fun T locs X _ target q => XS.iload X.here hx rfl (hb hby hd) hl q) hr
theorem Cx.lload (C : Cx G l Z a0 ws R y bytes maxL ret n0 Q) {j : Nat} {v : Int64} (hd : decode bytes pc = .ok (.lload j, 2)) (hl : ls[j]? = some (.val (.long v))) (hp : pc + 2 = pc') (hr : G h k n pc' ls (.long v :: st)) : G h k n pc ls (st) := by
  obtain ⟨p, e, s, m, args, below, meth, c, hx, hby, hml, hown, hnm, hret, hlk, hZ, hw, rfl⟩ := C
  subst hp
  exact lift (fun T locs X _ target q => XT.lload X.here hx rfl (hb hby hd) hl q) hr
theorem Cx.aload (C : Cx G l Z a0 ws R y bytes maxL ret n0 Q) {j : Nat} {v : Addr} (hd : decode bytes pc = .ok (.aload j, 2)) (hl : ls[j]? = some (.val (.ref v))) (hp : pc + 2 = pc') (hr : G h k n pc' ls (.ref v :: st)) : G h k n pc ls (st) := by
  obtain ⟨p, e, s, m, args, below, meth, c, hx, hby, hml, hown, hnm, hret, hlk, hZ, hw, rfl⟩ := C
  subst hp
  exact lift (fun T locs X _ target q => XS.aload X.here hx rfl (hb hby hd) hl rfl q) hr
theorem Cx.istore (C : Cx G l Z a0 ws R y bytes maxL ret n0 Q) {j : Nat} {x : Int32} (hd : decode bytes pc = .ok (.istore j, 2)) (hl : storeLocals ls j (.int x) = some ls') (hp : pc + 2 = pc') (hr : G h k n pc' ls' (st)) : G h k n pc ls (.int x :: st) := by
  obtain ⟨p, e, s, m, args, below, meth, c, hx, hby, hml, hown, hnm, hret, hlk, hZ, hw, rfl⟩ := C
  subst hp
  exact lift (fun T locs X _ target q => XS.istore X.here hx rfl (hb hby hd) rfl hl q) hr
theorem Cx.lstore (C : Cx G l Z a0 ws R y bytes maxL ret n0 Q) {j : Nat} {x : Int64} (hd : decode bytes pc = .ok (.lstore j, 2)) (hl : storeLocals ls j (.long x) = some ls') (hp : pc + 2 = pc') (hr : G h k n pc' ls' (st)) : G h k n pc ls (.long x :: st) := by
  obtain ⟨p, e, s, m, args, below, meth, c, hx, hby, hml, hown, hnm, hret, hlk, hZ, hw, rfl⟩ := C
  subst hp
  exact lift (fun T locs X _ target q => XT.lstore X.here hx rfl (hb hby hd) rfl hl q) hr
theorem Cx.astore (C : Cx G l Z a0 ws R y bytes maxL ret n0 Q) {j : Nat} {x : Addr} (hd : decode bytes pc = .ok (.astore j, 2)) (hl : storeLocals ls j (.ref x) = some ls') (hp : pc + 2 = pc') (hr : G h k n pc' ls' (st)) : G h k n pc ls (.ref x :: st) := by
  obtain ⟨p, e, s, m, args, below, meth, c, hx, hby, hml, hown, hnm, hret, hlk, hZ, hw, rfl⟩ := C
  subst hp
  exact lift (fun T locs X _ target q => XS.astore X.here hx rfl (hb hby hd) rfl rfl hl q) hr
theorem Cx.iloadN (C : Cx G l Z a0 ws R y bytes maxL ret n0 Q) {j : Fin 4} {v : Int32} (hd : decode bytes pc = .ok (.iload_n j, 1)) (hl : ls[j.val]? = some (.val (.int v))) (hp : pc + 1 = pc') (hr : G h k n pc' ls (.int v :: st)) : G h k n pc ls (st) := by
  obtain ⟨p, e, s, m, args, below, meth, c, hx, hby, hml, hown, hnm, hret, hlk, hZ, hw, rfl⟩ := C
  subst hp
  exact lift (fun T locs X _ target q => XS.iloadN X.here hx rfl (hb hby hd) hl q) hr
theorem Cx.lloadN (C : Cx G l Z a0 ws R y bytes maxL ret n0 Q) {j : Fin 4} {v : Int64} (hd : decode bytes pc = .ok (.lload_n j, 1)) (hl : ls[j.val]? = some (.val (.long v))) (hp : pc + 1 = pc') (hr : G h k n pc' ls (.long v :: st)) : G h k n pc ls (st) := by
  obtain ⟨p, e, s, m, args, below, meth, c, hx, hby, hml, hown, hnm, hret, hlk, hZ, hw, rfl⟩ := C
  subst hp
  exact lift (fun T locs X _ target q => XT.lloadN X.here hx rfl (hb hby hd) hl q) hr
theorem Cx.aloadN (C : Cx G l Z a0 ws R y bytes maxL ret n0 Q) {j : Fin 4} {v : Addr} (hd : decode bytes pc = .ok (.aload_n j, 1)) (hl : ls[j.val]? = some (.val (.ref v))) (hp : pc + 1 = pc') (hr : G h k n pc' ls (.ref v :: st)) : G h k n pc ls (st) := by
  obtain ⟨p, e, s, m, args, below, meth, c, hx, hby, hml, hown, hnm, hret, hlk, hZ, hw, rfl⟩ := C
  subst hp
  exact lift (fun T locs X _ target q => XS.aloadN X.here hx rfl (hb hby hd) hl rfl q) hr
theorem Cx.istoreN (C : Cx G l Z a0 ws R y bytes maxL ret n0 Q) {j : Fin 4} {x : Int32} (hd : decode bytes pc = .ok (.istore_n j, 1)) (hl : storeLocals ls j.val (.int x) = some ls') (hp : pc + 1 = pc') (hr : G h k n pc' ls' (st)) : G h k n pc ls (.int x :: st) := by
  obtain ⟨p, e, s, m, args, below, meth, c, hx, hby, hml, hown, hnm, hret, hlk, hZ, hw, rfl⟩ := C
  subst hp
  exact lift (fun T locs X _ target q => XS.istoreN X.here hx rfl (hb hby hd) rfl hl q) hr
theorem Cx.lstoreN (C : Cx G l Z a0 ws R y bytes maxL ret n0 Q) {j : Fin 4} {x : Int64} (hd : decode bytes pc = .ok (.lstore_n j, 1)) (hl : storeLocals ls j.val (.long x) = some ls') (hp : pc + 1 = pc') (hr : G h k n pc' ls' (st)) : G h k n pc ls (.long x :: st) := by
  obtain ⟨p, e, s, m, args, below, meth, c, hx, hby, hml, hown, hnm, hret, hlk, hZ, hw, rfl⟩ := C
  subst hp
  exact lift (fun T locs X _ target q => XT.lstoreN X.here hx rfl (hb hby hd) rfl hl q) hr
theorem Cx.astoreN (C : Cx G l Z a0 ws R y bytes maxL ret n0 Q) {j : Fin 4} {x : Addr} (hd : decode bytes pc = .ok (.astore_n j, 1)) (hl : storeLocals ls j.val (.ref x) = some ls') (hp : pc + 1 = pc') (hr : G h k n pc' ls' (st)) : G h k n pc ls (.ref x :: st) := by
  obtain ⟨p, e, s, m, args, below, meth, c, hx, hby, hml, hown, hnm, hret, hlk, hZ, hw, rfl⟩ := C
  subst hp
  exact lift (fun T locs X _ target q => XS.astoreN X.here hx rfl (hb hby hd) rfl rfl hl q) hr
theorem Cx.iconst (C : Cx G l Z a0 ws R y bytes maxL ret n0 Q) {i : Int} {v : Int32} (hd : decode bytes pc = .ok (.iconst i, 1)) (hv : Int32.ofInt i = v) (hp : pc + 1 = pc') (hr : G h k n pc' ls (.int v :: st)) : G h k n pc ls (st) := by
  obtain ⟨p, e, s, m, args, below, meth, c, hx, hby, hml, hown, hnm, hret, hlk, hZ, hw, rfl⟩ := C
  subst hp
  exact lift (fun T locs X _ target q => XT.iconstV X.here hx rfl v (hb hby hd) hv q) hr
theorem Cx.bipush (C : Cx G l Z a0 ws R y bytes maxL ret n0 Q) {i : Int} {v : Int32} (hd : decode bytes pc = .ok (.bipush i, 2)) (hv : (Int8.ofInt i).toInt32 = v) (hp : pc + 2 = pc') (hr : G h k n pc' ls (.int v :: st)) : G h k n pc ls (st) := by
  obtain ⟨p, e, s, m, args, below, meth, c, hx, hby, hml, hown, hnm, hret, hlk, hZ, hw, rfl⟩ := C
  subst hp
  exact lift (fun T locs X _ target q => XT.bipushV X.here hx rfl v (hb hby hd) hv q) hr
theorem Cx.sipush (C : Cx G l Z a0 ws R y bytes maxL ret n0 Q) {i : Int} {v : Int32} (hd : decode bytes pc = .ok (.sipush i, 3)) (hv : (Int16.ofInt i).toInt32 = v) (hp : pc + 3 = pc') (hr : G h k n pc' ls (.int v :: st)) : G h k n pc ls (st) := by
  obtain ⟨p, e, s, m, args, below, meth, c, hx, hby, hml, hown, hnm, hret, hlk, hZ, hw, rfl⟩ := C
  subst hp
  exact lift (fun T locs X _ target q => XT.sipushV X.here hx rfl v (hb hby hd) hv q) hr
theorem Cx.lconst (C : Cx G l Z a0 ws R y bytes maxL ret n0 Q) {i : Fin 2} {v : Int64} (hd : decode bytes pc = .ok (.lconst i, 1)) (hv : Int64.ofNat i = v) (hp : pc + 1 = pc') (hr : G h k n pc' ls (.long v :: st)) : G h k n pc ls (st) := by
  obtain ⟨p, e, s, m, args, below, meth, c, hx, hby, hml, hown, hnm, hret, hlk, hZ, hw, rfl⟩ := C
  subst hp
  exact lift (fun T locs X _ target q => XT.lconstV X.here hx rfl v (hb hby hd) hv q) hr
theorem Cx.dconst0 (C : Cx G l Z a0 ws R y bytes maxL ret n0 Q)  (hd : decode bytes pc = .ok (.dconst 0, 1))  (hp : pc + 1 = pc') (hr : G h k n pc' ls (.double FP.dconst0 :: st)) : G h k n pc ls (st) := by
  obtain ⟨p, e, s, m, args, below, meth, c, hx, hby, hml, hown, hnm, hret, hlk, hZ, hw, rfl⟩ := C
  subst hp
  exact lift (fun T locs X _ target q => XS.dconst0 X.here hx rfl (hb hby hd) rfl q) hr
theorem Cx.dconst1 (C : Cx G l Z a0 ws R y bytes maxL ret n0 Q)  (hd : decode bytes pc = .ok (.dconst 1, 1))  (hp : pc + 1 = pc') (hr : G h k n pc' ls (.double FP.dconst1 :: st)) : G h k n pc ls (st) := by
  obtain ⟨p, e, s, m, args, below, meth, c, hx, hby, hml, hown, hnm, hret, hlk, hZ, hw, rfl⟩ := C
  subst hp
  exact lift (fun T locs X _ target q => XS.dconst1 X.here hx rfl (hb hby hd) rfl q) hr
theorem Cx.iadd (C : Cx G l Z a0 ws R y bytes maxL ret n0 Q) {a b : Int32} (hd : decode bytes pc = .ok (.iadd, 1))  (hp : pc + 1 = pc') (hr : G h k n pc' ls (.int (a + b) :: st)) : G h k n pc ls (.int b :: .int a :: st) := by
  obtain ⟨p, e, s, m, args, below, meth, c, hx, hby, hml, hown, hnm, hret, hlk, hZ, hw, rfl⟩ := C
  subst hp
  exact lift (fun T locs X _ target q => XS.iadd X.here hx rfl (hb hby hd) rfl q) hr
theorem Cx.isub (C : Cx G l Z a0 ws R y bytes maxL ret n0 Q) {a b : Int32} (hd : decode bytes pc = .ok (.isub, 1))  (hp : pc + 1 = pc') (hr : G h k n pc' ls (.int (a - b) :: st)) : G h k n pc ls (.int b :: .int a :: st) := by
  obtain ⟨p, e, s, m, args, below, meth, c, hx, hby, hml, hown, hnm, hret, hlk, hZ, hw, rfl⟩ := C
  subst hp
  exact lift (fun T locs X _ target q => XS.isub X.here hx rfl (hb hby hd) rfl q) hr
theorem Cx.imul (C : Cx G l Z a0 ws R y bytes maxL ret n0 Q) {a b : Int32} (hd : decode bytes pc = .ok (.imul, 1))  (hp : pc + 1 = pc') (hr : G h k n pc' ls (.int (a * b) :: st)) : G h k n pc ls (.int b :: .int a :: st) := by
  obtain ⟨p, e, s, m, args, below, meth, c, hx, hby, hml, hown, hnm, hret, hlk, hZ, hw, rfl⟩ := C
  subst hp
  exact lift (fun T locs X _ target q => XS.imul X.here hx rfl (hb hby hd) rfl q) hr
theorem Cx.iand (C : Cx G l Z a0 ws R y bytes maxL ret n0 Q) {a b : Int32} (hd : decode bytes pc = .ok (.iand, 1))  (hp : pc + 1 = pc') (hr : G h k n pc' ls (.int (a &&& b) :: st)) : G h k n pc ls (.int b :: .int a :: st) := by
  obtain ⟨p, e, s, m, args, below, meth, c, hx, hby, hml, hown, hnm, hret, hlk, hZ, hw, rfl⟩ := C
  subst hp
  exact lift (fun T locs X _ target q => XS.iand X.here hx rfl (hb hby hd) rfl q) hr
theorem Cx.ior (C : Cx G l Z a0 ws R y bytes maxL ret n0 Q) {a b : Int32} (hd : decode bytes pc = .ok (.ior, 1))  (hp : pc + 1 = pc') (hr : G h k n pc' ls (.int (a ||| b) :: st)) : G h k n pc ls (.int b :: .int a :: st) := by
  obtain ⟨p, e, s, m, args, below, meth, c, hx, hby, hml, hown, hnm, hret, hlk, hZ, hw, rfl⟩ := C
  subst hp
  exact lift (fun T locs X _ target q => XT.ior X.here hx rfl (hb hby hd) rfl q) hr
theorem Cx.ixor (C : Cx G l Z a0 ws R y bytes maxL ret n0 Q) {a b : Int32} (hd : decode bytes pc = .ok (.ixor, 1))  (hp : pc + 1 = pc') (hr : G h k n pc' ls (.int (a ^^^ b) :: st)) : G h k n pc ls (.int b :: .int a :: st) := by
  obtain ⟨p, e, s, m, args, below, meth, c, hx, hby, hml, hown, hnm, hret, hlk, hZ, hw, rfl⟩ := C
  subst hp
  exact lift (fun T locs X _ target q => XT.ixor X.here hx rfl (hb hby hd) rfl q) hr
theorem Cx.ladd (C : Cx G l Z a0 ws R y bytes maxL ret n0 Q) {a b : Int64} (hd : decode bytes pc = .ok (.ladd, 1))  (hp : pc + 1 = pc') (hr : G h k n pc' ls (.long (a + b) :: st)) : G h k n pc ls (.long b :: .long a :: st) := by
  obtain ⟨p, e, s, m, args, below, meth, c, hx, hby, hml, hown, hnm, hret, hlk, hZ, hw, rfl⟩ := C
  subst hp
  exact lift (fun T locs X _ target q => XT.ladd X.here hx rfl (hb hby hd) rfl q) hr
theorem Cx.lsub (C : Cx G l Z a0 ws R y bytes maxL ret n0 Q) {a b : Int64} (hd : decode bytes pc = .ok (.lsub, 1))  (hp : pc + 1 = pc') (hr : G h k n pc' ls (.long (a - b) :: st)) : G h k n pc ls (.long b :: .long a :: st) := by
  obtain ⟨p, e, s, m, args, below, meth, c, hx, hby, hml, hown, hnm, hret, hlk, hZ, hw, rfl⟩ := C
  subst hp
  exact lift (fun T locs X _ target q => XT.lsub X.here hx rfl (hb hby hd) rfl q) hr
theorem Cx.lmul (C : Cx G l Z a0 ws R y bytes maxL ret n0 Q) {a b : Int64} (hd : decode bytes pc = .ok (.lmul, 1))  (hp : pc + 1 = pc') (hr : G h k n pc' ls (.long (a * b) :: st)) : G h k n pc ls (.long b :: .long a :: st) := by
  obtain ⟨p, e, s, m, args, below, meth, c, hx, hby, hml, hown, hnm, hret, hlk, hZ, hw, rfl⟩ := C
  subst hp
  exact lift (fun T locs X _ target q => XT.lmul X.here hx rfl (hb hby hd) rfl q) hr
theorem Cx.land (C : Cx G l Z a0 ws R y bytes maxL ret n0 Q) {a b : Int64} (hd : decode bytes pc = .ok (.land, 1))  (hp : pc + 1 = pc') (hr : G h k n pc' ls (.long (a &&& b) :: st)) : G h k n pc ls (.long b :: .long a :: st) := by
  obtain ⟨p, e, s, m, args, below, meth, c, hx, hby, hml, hown, hnm, hret, hlk, hZ, hw, rfl⟩ := C
  subst hp
  exact lift (fun T locs X _ target q => XT.land X.here hx rfl (hb hby hd) rfl q) hr
theorem Cx.lor (C : Cx G l Z a0 ws R y bytes maxL ret n0 Q) {a b : Int64} (hd : decode bytes pc = .ok (.lor, 1))  (hp : pc + 1 = pc') (hr : G h k n pc' ls (.long (a ||| b) :: st)) : G h k n pc ls (.long b :: .long a :: st) := by
  obtain ⟨p, e, s, m, args, below, meth, c, hx, hby, hml, hown, hnm, hret, hlk, hZ, hw, rfl⟩ := C
  subst hp
  exact lift (fun T locs X _ target q => XT.lor X.here hx rfl (hb hby hd) rfl q) hr
theorem Cx.lxor (C : Cx G l Z a0 ws R y bytes maxL ret n0 Q) {a b : Int64} (hd : decode bytes pc = .ok (.lxor, 1))  (hp : pc + 1 = pc') (hr : G h k n pc' ls (.long (a ^^^ b) :: st)) : G h k n pc ls (.long b :: .long a :: st) := by
  obtain ⟨p, e, s, m, args, below, meth, c, hx, hby, hml, hown, hnm, hret, hlk, hZ, hw, rfl⟩ := C
  subst hp
  exact lift (fun T locs X _ target q => XT.lxor X.here hx rfl (hb hby hd) rfl q) hr
theorem Cx.ishl (C : Cx G l Z a0 ws R y bytes maxL ret n0 Q) {a b : Int32} (hd : decode bytes pc = .ok (.ishl, 1))  (hp : pc + 1 = pc') (hr : G h k n pc' ls (.int (a <<< (b &&& 31)) :: st)) : G h k n pc ls (.int b :: .int a :: st) := by
  obtain ⟨p, e, s, m, args, below, meth, c, hx, hby, hml, hown, hnm, hret, hlk, hZ, hw, rfl⟩ := C
  subst hp
  exact lift (fun T locs X _ target q => XT.ishl X.here hx rfl (hb hby hd) rfl q) hr
theorem Cx.ishr (C : Cx G l Z a0 ws R y bytes maxL ret n0 Q) {a b : Int32} (hd : decode bytes pc = .ok (.ishr, 1))  (hp : pc + 1 = pc') (hr : G h k n pc' ls (.int (a >>> (b &&& 31)) :: st)) : G h k n pc ls (.int b :: .int a :: st) := by
  obtain ⟨p, e, s, m, args, below, meth, c, hx, hby, hml, hown, hnm, hret, hlk, hZ, hw, rfl⟩ := C
  subst hp
  exact lift (fun T locs X _ target q => XT.ishr X.here hx rfl (hb hby hd) rfl q) hr
theorem Cx.iushr (C : Cx G l Z a0 ws R y bytes maxL ret n0 Q) {a b : Int32} (hd : decode bytes pc = .ok (.iushr, 1))  (hp : pc + 1 = pc') (hr : G h k n pc' ls (.int (XT.ushr a b) :: st)) : G h k n pc ls (.int b :: .int a :: st) := by
  obtain ⟨p, e, s, m, args, below, meth, c, hx, hby, hml, hown, hnm, hret, hlk, hZ, hw, rfl⟩ := C
  subst hp
  exact lift (fun T locs X _ target q => XT.iushr X.here hx rfl (hb hby hd) rfl q) hr
theorem Cx.lshl (C : Cx G l Z a0 ws R y bytes maxL ret n0 Q) {a : Int64} {b : Int32} (hd : decode bytes pc = .ok (.lshl, 1))  (hp : pc + 1 = pc') (hr : G h k n pc' ls (.long (a <<< (b.toInt64 &&& 63)) :: st)) : G h k n pc ls (.int b :: .long a :: st) := by
  obtain ⟨p, e, s, m, args, below, meth, c, hx, hby, hml, hown, hnm, hret, hlk, hZ, hw, rfl⟩ := C
  subst hp
  exact lift (fun T locs X _ target q => XT.lshl X.here hx rfl (hb hby hd) rfl q) hr
theorem Cx.lshr (C : Cx G l Z a0 ws R y bytes maxL ret n0 Q) {a : Int64} {b : Int32} (hd : decode bytes pc = .ok (.lshr, 1))  (hp : pc + 1 = pc') (hr : G h k n pc' ls (.long (a >>> (b.toInt64 &&& 63)) :: st)) : G h k n pc ls (.int b :: .long a :: st) := by
  obtain ⟨p, e, s, m, args, below, meth, c, hx, hby, hml, hown, hnm, hret, hlk, hZ, hw, rfl⟩ := C
  subst hp
  exact lift (fun T locs X _ target q => XT.lshr X.here hx rfl (hb hby hd) rfl q) hr
theorem Cx.lushr (C : Cx G l Z a0 ws R y bytes maxL ret n0 Q) {a : Int64} {b : Int32} (hd : decode bytes pc = .ok (.lushr, 1))  (hp : pc + 1 = pc') (hr : G h k n pc' ls (.long (XT.ushrL a b) :: st)) : G h k n pc ls (.int b :: .long a :: st) := by
  obtain ⟨p, e, s, m, args, below, meth, c, hx, hby, hml, hown, hnm, hret, hlk, hZ, hw, rfl⟩ := C
  subst hp
  exact lift (fun T locs X _ target q => XT.lushr X.here hx rfl (hb hby hd) rfl q) hr
theorem Cx.ineg (C : Cx G l Z a0 ws R y bytes maxL ret n0 Q) {a : Int32} (hd : decode bytes pc = .ok (.ineg, 1))  (hp : pc + 1 = pc') (hr : G h k n pc' ls (.int (-a) :: st)) : G h k n pc ls (.int a :: st) := by
  obtain ⟨p, e, s, m, args, below, meth, c, hx, hby, hml, hown, hnm, hret, hlk, hZ, hw, rfl⟩ := C
  subst hp
  exact lift (fun T locs X _ target q => XS.ineg X.here hx rfl (hb hby hd) rfl q) hr
theorem Cx.i2l (C : Cx G l Z a0 ws R y bytes maxL ret n0 Q) {a : Int32} (hd : decode bytes pc = .ok (.i2l, 1))  (hp : pc + 1 = pc') (hr : G h k n pc' ls (.long a.toInt64 :: st)) : G h k n pc ls (.int a :: st) := by
  obtain ⟨p, e, s, m, args, below, meth, c, hx, hby, hml, hown, hnm, hret, hlk, hZ, hw, rfl⟩ := C
  subst hp
  exact lift (fun T locs X _ target q => XT.i2l X.here hx rfl (hb hby hd) rfl q) hr
theorem Cx.l2i (C : Cx G l Z a0 ws R y bytes maxL ret n0 Q) {a : Int64} (hd : decode bytes pc = .ok (.l2i, 1))  (hp : pc + 1 = pc') (hr : G h k n pc' ls (.int a.toInt32 :: st)) : G h k n pc ls (.long a :: st) := by
  obtain ⟨p, e, s, m, args, below, meth, c, hx, hby, hml, hown, hnm, hret, hlk, hZ, hw, rfl⟩ := C
  subst hp
  exact lift (fun T locs X _ target q => XT.l2i X.here hx rfl (hb hby hd) rfl q) hr
theorem Cx.i2b (C : Cx G l Z a0 ws R y bytes maxL ret n0 Q) {a : Int32} (hd : decode bytes pc = .ok (.i2b, 1))  (hp : pc + 1 = pc') (hr : G h k n pc' ls (.int a.toInt8.toInt32 :: st)) : G h k n pc ls (.int a :: st) := by
  obtain ⟨p, e, s, m, args, below, meth, c, hx, hby, hml, hown, hnm, hret, hlk, hZ, hw, rfl⟩ := C
  subst hp
  exact lift (fun T locs X _ target q => XT.i2b X.here hx rfl (hb hby hd) rfl q) hr
theorem Cx.i2c (C : Cx G l Z a0 ws R y bytes maxL ret n0 Q) {a : Int32} (hd : decode bytes pc = .ok (.i2c, 1))  (hp : pc + 1 = pc') (hr : G h k n pc' ls (.int a.toUInt32.toUInt16.toUInt32.toInt32 :: st)) : G h k n pc ls (.int a :: st) := by
  obtain ⟨p, e, s, m, args, below, meth, c, hx, hby, hml, hown, hnm, hret, hlk, hZ, hw, rfl⟩ := C
  subst hp
  exact lift (fun T locs X _ target q => XT.i2c X.here hx rfl (hb hby hd) rfl q) hr
theorem Cx.lcmp (C : Cx G l Z a0 ws R y bytes maxL ret n0 Q) {a b : Int64} (hd : decode bytes pc = .ok (.lcmp, 1))  (hp : pc + 1 = pc') (hr : G h k n pc' ls (.int (XT.cmpL a b) :: st)) : G h k n pc ls (.long b :: .long a :: st) := by
  obtain ⟨p, e, s, m, args, below, meth, c, hx, hby, hml, hown, hnm, hret, hlk, hZ, hw, rfl⟩ := C
  subst hp
  exact lift (fun T locs X _ target q => XT.lcmp X.here hx rfl (hb hby hd) rfl q) hr
theorem Cx.dup (C : Cx G l Z a0 ws R y bytes maxL ret n0 Q) {x : Value} (hd : decode bytes pc = .ok (.dup, 1)) (hc : x.category = 1) (hp : pc + 1 = pc') (hr : G h k n pc' ls (x :: x :: st)) : G h k n pc ls (x :: st) := by
  obtain ⟨p, e, s, m, args, below, meth, c, hx, hby, hml, hown, hnm, hret, hlk, hZ, hw, rfl⟩ := C
  subst hp
  exact lift (fun T locs X _ target q => XS.dup X.here hx rfl (hb hby hd) rfl hc q) hr
theorem Cx.dup2 (C : Cx G l Z a0 ws R y bytes maxL ret n0 Q) {x z : Value} (hd : decode bytes pc = .ok (.dup2, 1)) (hc : x.category = 1) (hc' : z.category = 1) (hp : pc + 1 = pc') (hr : G h k n pc' ls (x :: z :: x :: z :: st)) : G h k n pc ls (x :: z :: st) := by
  obtain ⟨p, e, s, m, args, below, meth, c, hx, hby, hml, hown, hnm, hret, hlk, hZ, hw, rfl⟩ := C
  subst hp
  exact lift (fun T locs X _ target q => XT.dup2 X.here hx rfl (hb hby hd) rfl hc hc' q) hr
theorem Cx.iinc (C : Cx G l Z a0 ws R y bytes maxL ret n0 Q) {j : Nat} {i : Int} {v x : Int32} (hd : decode bytes pc = .ok (.iinc j i, 3)) (hv : Int32.ofInt i = v) (hl : ls[j]? = some (.val (.int x))) (hl' : storeLocals ls j (.int (x + v)) = some ls') (hp : pc + 3 = pc') (hr : G h k n pc' ls' st) : G h k n pc ls st := by
  obtain ⟨p, e, s, m, args, below, meth, c, hx, hby, hml, hown, hnm, hret, hlk, hZ, hw, rfl⟩ := C
  subst hp
  exact lift (fun T locs X _ target q => XT.iincV X.here hx rfl v (hb hby hd) hv hl hl' q) hr
theorem Cx.irem (C : Cx G l Z a0 ws R y bytes maxL ret n0 Q) {a b : Int32} (hd : decode bytes pc = .ok (.irem, 1)) (hb0 : b ≠ 0) (hp : pc + 1 = pc') (hr : G h k n pc' ls (.int (a % b) :: st)) : G h k n pc ls (.int b :: .int a :: st) := by
  obtain ⟨p, e, s, m, args, below, meth, c, hx, hby, hml, hown, hnm, hret, hlk, hZ, hw, rfl⟩ := C
  subst hp
  exact lift (fun T locs X _ target q => iremM X hx rfl (hb hby hd) rfl hb0 q) hr
theorem Cx.goto (C : Cx G l Z a0 ws R y bytes maxL ret n0 Q) {o : Int} (hd : decode bytes pc = .ok (.goto o, 3)) (ho : 0 ≤ (pc : Int) + o) (hp : ((pc : Int) + o).toNat = pc') (hr : G h k n pc' ls st) : G h k n pc ls st := by
  obtain ⟨p, e, s, m, args, below, meth, c, hx, hby, hml, hown, hnm, hret, hlk, hZ, hw, rfl⟩ := C
  exact lift (fun T locs X _ target q => XS.goto X.here hx rfl (pc0 := pc) rfl (hb hby hd) ho hp q) hr
theorem Cx.dupX2 (C : Cx G l Z a0 ws R y bytes maxL ret n0 Q) {x z w : Value} (hd : decode bytes pc = .ok (.dup_x2, 1)) (hc : x.category = 1) (hc' : z.category = 1) (hc'' : w.category = 1) (hp : pc + 1 = pc') (hr : G h k n pc' ls (x :: z :: w :: x :: st)) : G h k n pc ls (x :: z :: w :: st) := by
  obtain ⟨p, e, s, m, args, below, meth, c, hx, hby, hml, hown, hnm, hret, hlk, hZ, hw, rfl⟩ := C
  subst hp
  refine lift (fun T locs X _ target q => ?_) hr
  have h := X.here
  have hd' := hb hby hd
  show Steps p.tables e below (T.setTop { method := m, pc := pc, locals := ls, stack := x :: z :: w :: st, locked := none }) _
  jvm_step h [h.top, hx, hd', hc, hc', hc'']
  exact q
theorem Cx.icmp_eq_T (C : Cx G l Z a0 ws R y bytes maxL ret n0 Q) {a b : Int32} {o : Int} (hd : decode bytes pc = .ok (.if_icmp .eq o, 3)) (hc : a = b) (ho : 0 ≤ (pc : Int) + o) (hp : ((pc : Int) + o).toNat = pc') (hr : G h k n pc' ls st) : G h k n pc ls (.int b :: .int a :: st) := by
  obtain ⟨p, e, s, m, args, below, meth, c, hx, hby, hml, hown, hnm, hret, hlk, hZ, hw, rfl⟩ := C
  exact lift (fun T locs X _ target q => XS.icmpYes X.here hx rfl (pc0 := pc) rfl (hb hby hd) rfl (teq hc).1 ho hp q) hr
theorem Cx.icmp_eq_F (C : Cx G l Z a0 ws R y bytes maxL ret n0 Q) {a b : Int32} {o : Int} (hd : decode bytes pc = .ok (.if_icmp .eq o, 3)) (hc : ¬ a = b) (hp : pc + 3 = pc') (hr : G h k n pc' ls st) : G h k n pc ls (.int b :: .int a :: st) := by
  obtain ⟨p, e, s, m, args, below, meth, c, hx, hby, hml, hown, hnm, hret, hlk, hZ, hw, rfl⟩ := C
  subst hp
  exact lift (fun T locs X _ target q => XS.icmpNo X.here hx rfl (hb hby hd) rfl (feq hc).1 q) hr
theorem Cx.if_eq_T (C : Cx G l Z a0 ws R y bytes maxL ret n0 Q) {a : Int32} {o : Int} (hd : decode bytes pc = .ok (.ifCond .eq o, 3)) (hc : a = (0 : Int32)) (ho : 0 ≤ (pc : Int) + o) (hp : ((pc : Int) + o).toNat = pc') (hr : G h k n pc' ls st) : G h k n pc ls (.int a :: st) := by
  obtain ⟨p, e, s, m, args, below, meth, c, hx, hby, hml, hown, hnm, hret, hlk, hZ, hw, rfl⟩ := C
  exact lift (fun T locs X _ target q => XS.ifYes X.here hx rfl (pc0 := pc) rfl (hb hby hd) rfl (by rw [if0]; exact (teq hc).1) ho hp q) hr
theorem Cx.if_eq_F (C : Cx G l Z a0 ws R y bytes maxL ret n0 Q) {a : Int32} {o : Int} (hd : decode bytes pc = .ok (.ifCond .eq o, 3)) (hc : ¬ a = (0 : Int32)) (hp : pc + 3 = pc') (hr : G h k n pc' ls st) : G h k n pc ls (.int a :: st) := by
  obtain ⟨p, e, s, m, args, below, meth, c, hx, hby, hml, hown, hnm, hret, hlk, hZ, hw, rfl⟩ := C
  subst hp
  exact lift (fun T locs X _ target q => XS.ifNo X.here hx rfl (hb hby hd) rfl (by rw [if0]; exact (feq hc).1) q) hr
theorem Cx.icmp_eq (C : Cx G l Z a0 ws R y bytes maxL ret n0 Q) {a b : Int32} {o : Int} (hd : decode bytes pc = .ok (.if_icmp .eq o, 3)) (ho : 0 ≤ (pc : Int) + o) (hp : ((pc : Int) + o).toNat = pc1) (hq : pc + 3 = pc2) (h1 : a = b → G h k n pc1 ls st) (h2 : ¬ a = b → G h k n pc2 ls st) : G h k n pc ls (.int b :: .int a :: st) := by
  by_cases hc : a = b
  · exact C.icmp_eq_T hd hc ho hp (h1 hc)
  · exact C.icmp_eq_F hd hc hq (h2 hc)
theorem Cx.if_eq (C : Cx G l Z a0 ws R y bytes maxL ret n0 Q) {a : Int32} {o : Int} (hd : decode bytes pc = .ok (.ifCond .eq o, 3)) (ho : 0 ≤ (pc : Int) + o) (hp : ((pc : Int) + o).toNat = pc1) (hq : pc + 3 = pc2) (h1 : a = (0 : Int32) → G h k n pc1 ls st) (h2 : ¬ a = (0 : Int32) → G h k n pc2 ls st) : G h k n pc ls (.int a :: st) := by
  by_cases hc : a = (0 : Int32)
  · exact C.if_eq_T hd hc ho hp (h1 hc)
  · exact C.if_eq_F hd hc hq (h2 hc)
theorem Cx.icmp_ne_T (C : Cx G l Z a0 ws R y bytes maxL ret n0 Q) {a b : Int32} {o : Int} (hd : decode bytes pc = .ok (.if_icmp .ne o, 3)) (hc : ¬ a = b) (ho : 0 ≤ (pc : Int) + o) (hp : ((pc : Int) + o).toNat = pc') (hr : G h k n pc' ls st) : G h k n pc ls (.int b :: .int a :: st) := by
  obtain ⟨p, e, s, m, args, below, meth, c, hx, hby, hml, hown, hnm, hret, hlk, hZ, hw, rfl⟩ := C
  exact lift (fun T locs X _ target q => XS.icmpYes X.here hx rfl (pc0 := pc) rfl (hb hby hd) rfl (feq hc).2 ho hp q) hr
theorem Cx.icmp_ne_F (C : Cx G l Z a0 ws R y bytes maxL ret n0 Q) {a b : Int32} {o : Int} (hd : decode bytes pc = .ok (.if_icmp .ne o, 3)) (hc : a = b) (hp : pc + 3 = pc') (hr : G h k n pc' ls st) : G h k n pc ls (.int b :: .int a :: st) := by
  obtain ⟨p, e, s, m, args, below, meth, c, hx, hby, hml, hown, hnm, hret, hlk, hZ, hw, rfl⟩ := C
  subst hp
  exact lift (fun T locs X _ target q => XS.icmpNo X.here hx rfl (hb hby hd) rfl (teq hc).2 q) hr
theorem Cx.if_ne_T (C : Cx G l Z a0 ws R y bytes maxL ret n0 Q) {a : Int32} {o : Int} (hd : decode bytes pc = .ok (.ifCond .ne o, 3)) (hc : ¬ a = (0 : Int32)) (ho : 0 ≤ (pc : Int) + o) (hp : ((pc : Int) + o).toNat = pc') (hr : G h k n pc' ls st) : G h k n pc ls (.int a :: st) := by
  obtain ⟨p, e, s, m, args, below, meth, c, hx, hby, hml, hown, hnm, hret, hlk, hZ, hw, rfl⟩ := C
  exact lift (fun T locs X _ target q => XS.ifYes X.here hx rfl (pc0 := pc) rfl (hb hby hd) rfl (by rw [if0]; exact (feq hc).2) ho hp q) hr
theorem Cx.if_ne_F (C : Cx G l Z a0 ws R y bytes maxL ret n0 Q) {a : Int32} {o : Int} (hd : decode bytes pc = .ok (.ifCond .ne o, 3)) (hc : a = (0 : Int32)) (hp : pc + 3 = pc') (hr : G h k n pc' ls st) : G h k n pc ls (.int a :: st) := by
  obtain ⟨p, e, s, m, args, below, meth, c, hx, hby, hml, hown, hnm, hret, hlk, hZ, hw, rfl⟩ := C
  subst hp
  exact lift (fun T locs X _ target q => XS.ifNo X.here hx rfl (hb hby hd) rfl (by rw [if0]; exact (teq hc).2) q) hr
theorem Cx.icmp_ne (C : Cx G l Z a0 ws R y bytes maxL ret n0 Q) {a b : Int32} {o : Int} (hd : decode bytes pc = .ok (.if_icmp .ne o, 3)) (ho : 0 ≤ (pc : Int) + o) (hp : ((pc : Int) + o).toNat = pc1) (hq : pc + 3 = pc2) (h1 : ¬ a = b → G h k n pc1 ls st) (h2 : a = b → G h k n pc2 ls st) : G h k n pc ls (.int b :: .int a :: st) := by
  by_cases hc : a = b
  · exact C.icmp_ne_F hd hc hq (h2 hc)
  · exact C.icmp_ne_T hd hc ho hp (h1 hc)
theorem Cx.if_ne (C : Cx G l Z a0 ws R y bytes maxL ret n0 Q) {a : Int32} {o : Int} (hd : decode bytes pc = .ok (.ifCond .ne o, 3)) (ho : 0 ≤ (pc : Int) + o) (hp : ((pc : Int) + o).toNat = pc1) (hq : pc + 3 = pc2) (h1 : ¬ a = (0 : Int32) → G h k n pc1 ls st) (h2 : a = (0 : Int32) → G h k n pc2 ls st) : G h k n pc ls (.int a :: st) := by
  by_cases hc : a = (0 : Int32)
  · exact C.if_ne_F hd hc hq (h2 hc)
  · exact C.if_ne_T hd hc ho hp (h1 hc)
theorem Cx.icmp_lt_T (C : Cx G l Z a0 ws R y bytes maxL ret n0 Q) {a b : Int32} {o : Int} (hd : decode bytes pc = .ok (.if_icmp .lt o, 3)) (hc : a < b) (ho : 0 ≤ (pc : Int) + o) (hp : ((pc : Int) + o).toNat = pc') (hr : G h k n pc' ls st) : G h k n pc ls (.int b :: .int a :: st) := by
  obtain ⟨p, e, s, m, args, below, meth, c, hx, hby, hml, hown, hnm, hret, hlk, hZ, hw, rfl⟩ := C
  exact lift (fun T locs X _ target q => XS.icmpYes X.here hx rfl (pc0 := pc) rfl (hb hby hd) rfl (tlt hc).1 ho hp q) hr
theorem Cx.icmp_lt_F (C : Cx G l Z a0 ws R y bytes maxL ret n0 Q) {a b : Int32} {o : Int} (hd : decode bytes pc = .ok (.if_icmp .lt o, 3)) (hc : ¬ a < b) (hp : pc + 3 = pc') (hr : G h k n pc' ls st) : G h k n pc ls (.int b :: .int a :: st) := by
  obtain ⟨p, e, s, m, args, below, meth, c, hx, hby, hml, hown, hnm, hret, hlk, hZ, hw, rfl⟩ := C
  subst hp
  exact lift (fun T locs X _ target q => XS.icmpNo X.here hx rfl (hb hby hd) rfl (flt hc).1 q) hr
theorem Cx.if_lt_T (C : Cx G l Z a0 ws R y bytes maxL ret n0 Q) {a : Int32} {o : Int} (hd : decode bytes pc = .ok (.ifCond .lt o, 3)) (hc : a < (0 : Int32)) (ho : 0 ≤ (pc : Int) + o) (hp : ((pc : Int) + o).toNat = pc') (hr : G h k n pc' ls st) : G h k n pc ls (.int a :: st) := by
  obtain ⟨p, e, s, m, args, below, meth, c, hx, hby, hml, hown, hnm, hret, hlk, hZ, hw, rfl⟩ := C
  exact lift (fun T locs X _ target q => XS.ifYes X.here hx rfl (pc0 := pc) rfl (hb hby hd) rfl (by rw [if0]; exact (tlt hc).1) ho hp q) hr
theorem Cx.if_lt_F (C : Cx G l Z a0 ws R y bytes maxL ret n0 Q) {a : Int32} {o : Int} (hd : decode bytes pc = .ok (.ifCond .lt o, 3)) (hc : ¬ a < (0 : Int32)) (hp : pc + 3 = pc') (hr : G h k n pc' ls st) : G h k n pc ls (.int a :: st) := by
  obtain ⟨p, e, s, m, args, below, meth, c, hx, hby, hml, hown, hnm, hret, hlk, hZ, hw, rfl⟩ := C
  subst hp
  exact lift (fun T locs X _ target q => XS.ifNo X.here hx rfl (hb hby hd) rfl (by rw [if0]; exact (flt hc).1) q) hr
theorem Cx.icmp_lt (C : Cx G l Z a0 ws R y bytes maxL ret n0 Q) {a b : Int32} {o : Int} (hd : decode bytes pc = .ok (.if_icmp .lt o, 3)) (ho : 0 ≤ (pc : Int) + o) (hp : ((pc : Int) + o).toNat = pc1) (hq : pc + 3 = pc2) (h1 : a < b → G h k n pc1 ls st) (h2 : ¬ a < b → G h k n pc2 ls st) : G h k n pc ls (.int b :: .int a :: st) := by
  by_cases hc : a < b
  · exact C.icmp_lt_T hd hc ho hp (h1 hc)
  · exact C.icmp_lt_F hd hc hq (h2 hc)
theorem Cx.if_lt (C : Cx G l Z a0 ws R y bytes maxL ret n0 Q) {a : Int32} {o : Int} (hd : decode bytes pc = .ok (.ifCond .lt o, 3)) (ho : 0 ≤ (pc : Int) + o) (hp : ((pc : Int) + o).toNat = pc1) (hq : pc + 3 = pc2) (h1 : a < (0 : Int32) → G h k n pc1 ls st) (h2 : ¬ a < (0 : Int32) → G h k n pc2 ls st) : G h k n pc ls (.int a :: st) := by
  by_cases hc : a < (0 : Int32)
  · exact C.if_lt_T hd hc ho hp (h1 hc)
  · exact C.if_lt_F hd hc hq (h2 hc)
theorem Cx.icmp_ge_T (C : Cx G l Z a0 ws R y bytes maxL ret n0 Q) {a b : Int32} {o : Int} (hd : decode bytes pc = .ok (.if_icmp .ge o, 3)) (hc : ¬ a < b) (ho : 0 ≤ (pc : Int) + o) (hp : ((pc : Int) + o).toNat = pc') (hr : G h k n pc' ls st) : G h k n pc ls (.int b :: .int a :: st) := by
  obtain ⟨p, e, s, m, args, below, meth, c, hx, hby, hml, hown, hnm, hret, hlk, hZ, hw, rfl⟩ := C
  exact lift (fun T locs X _ target q => XS.icmpYes X.here hx rfl (pc0 := pc) rfl (hb hby hd) rfl (flt hc).2.1 ho hp q) hr
theorem Cx.icmp_ge_F (C : Cx G l Z a0 ws R y bytes maxL ret n0 Q) {a b : Int32} {o : Int} (hd : decode bytes pc = .ok (.if_icmp .ge o, 3)) (hc : a < b) (hp : pc + 3 = pc') (hr : G h k n pc' ls st) : G h k n pc ls (.int b :: .int a :: st) := by
  obtain ⟨p, e, s, m, args, below, meth, c, hx, hby, hml, hown, hnm, hret, hlk, hZ, hw, rfl⟩ := C
  subst hp
  exact lift (fun T locs X _ target q => XS.icmpNo X.here hx rfl (hb hby hd) rfl (tlt hc).2.1 q) hr
theorem Cx.if_ge_T (C : Cx G l Z a0 ws R y bytes maxL ret n0 Q) {a : Int32} {o : Int} (hd : decode bytes pc = .ok (.ifCond .ge o, 3)) (hc : ¬ a < (0 : Int32)) (ho : 0 ≤ (pc : Int) + o) (hp : ((pc : Int) + o).toNat = pc') (hr : G h k n pc' ls st) : G h k n pc ls (.int a :: st) := by
  obtain ⟨p, e, s, m, args, below, meth, c, hx, hby, hml, hown, hnm, hret, hlk, hZ, hw, rfl⟩ := C
  exact lift (fun T locs X _ target q => XS.ifYes X.here hx rfl (pc0 := pc) rfl (hb hby hd) rfl (by rw [if0]; exact (flt hc).2.1) ho hp q) hr
theorem Cx.if_ge_F (C : Cx G l Z a0 ws R y bytes maxL ret n0 Q) {a : Int32} {o : Int} (hd : decode bytes pc = .ok (.ifCond .ge o, 3)) (hc : a < (0 : Int32)) (hp : pc + 3 = pc') (hr : G h k n pc' ls st) : G h k n pc ls (.int a :: st) := by
  obtain ⟨p, e, s, m, args, below, meth, c, hx, hby, hml, hown, hnm, hret, hlk, hZ, hw, rfl⟩ := C
  subst hp
  exact lift (fun T locs X _ target q => XS.ifNo X.here hx rfl (hb hby hd) rfl (by rw [if0]; exact (tlt hc).2.1) q) hr
theorem Cx.icmp_ge (C : Cx G l Z a0 ws R y bytes maxL ret n0 Q) {a b : Int32} {o : Int} (hd : decode bytes pc = .ok (.if_icmp .ge o, 3)) (ho : 0 ≤ (pc : Int) + o) (hp : ((pc : Int) + o).toNat = pc1) (hq : pc + 3 = pc2) (h1 : ¬ a < b → G h k n pc1 ls st) (h2 : a < b → G h k n pc2 ls st) : G h k n pc ls (.int b :: .int a :: st) := by
  by_cases hc : a < b
  · exact C.icmp_ge_F hd hc hq (h2 hc)
  · exact C.icmp_ge_T hd hc ho hp (h1 hc)
theorem Cx.if_ge (C : Cx G l Z a0 ws R y bytes maxL ret n0 Q) {a : Int32} {o : Int} (hd : decode bytes pc = .ok (.ifCond .ge o, 3)) (ho : 0 ≤ (pc : Int) + o) (hp : ((pc : Int) + o).toNat = pc1) (hq : pc + 3 = pc2) (h1 : ¬ a < (0 : Int32) → G h k n pc1 ls st) (h2 : a < (0 : Int32) → G h k n pc2 ls st) : G h k n pc ls (.int a :: st) := by
  by_cases hc : a < (0 : Int32)
  · exact C.if_ge_F hd hc hq (h2 hc)
  · exact C.if_ge_T hd hc ho hp (h1 hc)
theorem Cx.icmp_gt_T (C : Cx G l Z a0 ws R y bytes maxL ret n0 Q) {a b : Int32} {o : Int} (hd : decode bytes pc = .ok (.if_icmp .gt o, 3)) (hc : b < a) (ho : 0 ≤ (pc : Int) + o) (hp : ((pc : Int) + o).toNat = pc') (hr : G h k n pc' ls st) : G h k n pc ls (.int b :: .int a :: st) := by
  obtain ⟨p, e, s, m, args, below, meth, c, hx, hby, hml, hown, hnm, hret, hlk, hZ, hw, rfl⟩ := C
  exact lift (fun T locs X _ target q => XS.icmpYes X.here hx rfl (pc0 := pc) rfl (hb hby hd) rfl (tlt hc).2.2.1 ho hp q) hr
theorem Cx.icmp_gt_F (C : Cx G l Z a0 ws R y bytes maxL ret n0 Q) {a b : Int32} {o : Int} (hd : decode bytes pc = .ok (.if_icmp .gt o, 3)) (hc : ¬ b < a) (hp : pc + 3 = pc') (hr : G h k n pc' ls st) : G h k n pc ls (.int b :: .int a :: st) := by
  obtain ⟨p, e, s, m, args, below, meth, c, hx, hby, hml, hown, hnm, hret, hlk, hZ, hw, rfl⟩ := C
  subst hp
  exact lift (fun T locs X _ target q => XS.icmpNo X.here hx rfl (hb hby hd) rfl (flt hc).2.2.1 q) hr
theorem Cx.if_gt_T (C : Cx G l Z a0 ws R y bytes maxL ret n0 Q) {a : Int32} {o : Int} (hd : decode bytes pc = .ok (.ifCond .gt o, 3)) (hc : (0 : Int32) < a) (ho : 0 ≤ (pc : Int) + o) (hp : ((pc : Int) + o).toNat = pc') (hr : G h k n pc' ls st) : G h k n pc ls (.int a :: st) := by
  obtain ⟨p, e, s, m, args, below, meth, c, hx, hby, hml, hown, hnm, hret, hlk, hZ, hw, rfl⟩ := C
  exact lift (fun T locs X _ target q => XS.ifYes X.here hx rfl (pc0 := pc) rfl (hb hby hd) rfl (by rw [if0]; exact (tlt hc).2.2.1) ho hp q) hr
theorem Cx.if_gt_F (C : Cx G l Z a0 ws R y bytes maxL ret n0 Q) {a : Int32} {o : Int} (hd : decode bytes pc = .ok (.ifCond .gt o, 3)) (hc : ¬ (0 : Int32) < a) (hp : pc + 3 = pc') (hr : G h k n pc' ls st) : G h k n pc ls (.int a :: st) := by
  obtain ⟨p, e, s, m, args, below, meth, c, hx, hby, hml, hown, hnm, hret, hlk, hZ, hw, rfl⟩ := C
  subst hp
  exact lift (fun T locs X _ target q => XS.ifNo X.here hx rfl (hb hby hd) rfl (by rw [if0]; exact (flt hc).2.2.1) q) hr
theorem Cx.icmp_gt (C : Cx G l Z a0 ws R y bytes maxL ret n0 Q) {a b : Int32} {o : Int} (hd : decode bytes pc = .ok (.if_icmp .gt o, 3)) (ho : 0 ≤ (pc : Int) + o) (hp : ((pc : Int) + o).toNat = pc1) (hq : pc + 3 = pc2) (h1 : b < a → G h k n pc1 ls st) (h2 : ¬ b < a → G h k n pc2 ls st) : G h k n pc ls (.int b :: .int a :: st) := by
  by_cases hc : b < a
  · exact C.icmp_gt_T hd hc ho hp (h1 hc)
  · exact C.icmp_gt_F hd hc hq (h2 hc)
theorem Cx.if_gt (C : Cx G l Z a0 ws R y bytes maxL ret n0 Q) {a : Int32} {o : Int} (hd : decode bytes pc = .ok (.ifCond .gt o, 3)) (ho : 0 ≤ (pc : Int) + o) (hp : ((pc : Int) + o).toNat = pc1) (hq : pc + 3 = pc2) (h1 : (0 : Int32) < a → G h k n pc1 ls st) (h2 : ¬ (0 : Int32) < a → G h k n pc2 ls st) : G h k n pc ls (.int a :: st) := by
  by_cases hc : (0 : Int32) < a
  · exact C.if_gt_T hd hc ho hp (h1 hc)
  · exact C.if_gt_F hd hc hq (h2 hc)
theorem Cx.icmp_le_T (C : Cx G l Z a0 ws R y bytes maxL ret n0 Q) {a b : Int32} {o : Int} (hd : decode bytes pc = .ok (.if_icmp .le o, 3)) (hc : ¬ b < a) (ho : 0 ≤ (pc : Int) + o) (hp : ((pc : Int) + o).toNat = pc') (hr : G h k n pc' ls st) : G h k n pc ls (.int b :: .int a :: st) := by
  obtain ⟨p, e, s, m, args, below, meth, c, hx, hby, hml, hown, hnm, hret, hlk, hZ, hw, rfl⟩ := C
  exact lift (fun T locs X _ target q => XS.icmpYes X.here hx rfl (pc0 := pc) rfl (hb hby hd) rfl (flt hc).2.2.2 ho hp q) hr
theorem Cx.icmp_le_F (C : Cx G l Z a0 ws R y bytes maxL ret n0 Q) {a b : Int32} {o : Int} (hd : decode bytes pc = .ok (.if_icmp .le o, 3)) (hc : b < a) (hp : pc + 3 = pc') (hr : G h k n pc' ls st) : G h k n pc ls (.int b :: .int a :: st) := by
  obtain ⟨p, e, s, m, args, below, meth, c, hx, hby, hml, hown, hnm, hret, hlk, hZ, hw, rfl⟩ := C
  subst hp
  exact lift (fun T locs X _ target q => XS.icmpNo X.here hx rfl (hb hby hd) rfl (tlt hc).2.2.2 q) hr
theorem Cx.if_le_T (C : Cx G l Z a0 ws R y bytes maxL ret n0 Q) {a : Int32} {o : Int} (hd : decode bytes pc = .ok (.ifCond .le o, 3)) (hc : ¬ (0 : Int32) < a) (ho : 0 ≤ (pc : Int) + o) (hp : ((pc : Int) + o).toNat = pc') (hr : G h k n pc' ls st) : G h k n pc ls (.int a :: st) := by
  obtain ⟨p, e, s, m, args, below, meth, c, hx, hby, hml, hown, hnm, hret, hlk, hZ, hw, rfl⟩ := C
  exact lift (fun T locs X _ target q => XS.ifYes X.here hx rfl (pc0 := pc) rfl (hb hby hd) rfl (by rw [if0]; exact (flt hc).2.2.2) ho hp q) hr
theorem Cx.if_le_F (C : Cx G l Z a0 ws R y bytes maxL ret n0 Q) {a : Int32} {o : Int} (hd : decode bytes pc = .ok (.ifCond .le o, 3)) (hc : (0 : Int32) < a) (hp : pc + 3 = pc') (hr : G h k n pc' ls st) : G h k n pc ls (.int a :: st) := by
  obtain ⟨p, e, s, m, args, below, meth, c, hx, hby, hml, hown, hnm, hret, hlk, hZ, hw, rfl⟩ := C
  subst hp
  exact lift (fun T locs X _ target q => XS.ifNo X.here hx rfl (hb hby hd) rfl (by rw [if0]; exact (tlt hc).2.2.2) q) hr
theorem Cx.icmp_le (C : Cx G l Z a0 ws R y bytes maxL ret n0 Q) {a b : Int32} {o : Int} (hd : decode bytes pc = .ok (.if_icmp .le o, 3)) (ho : 0 ≤ (pc : Int) + o) (hp : ((pc : Int) + o).toNat = pc1) (hq : pc + 3 = pc2) (h1 : ¬ b < a → G h k n pc1 ls st) (h2 : b < a → G h k n pc2 ls st) : G h k n pc ls (.int b :: .int a :: st) := by
  by_cases hc : b < a
  · exact C.icmp_le_F hd hc hq (h2 hc)
  · exact C.icmp_le_T hd hc ho hp (h1 hc)
theorem Cx.if_le (C : Cx G l Z a0 ws R y bytes maxL ret n0 Q) {a : Int32} {o : Int} (hd : decode bytes pc = .ok (.ifCond .le o, 3)) (ho : 0 ≤ (pc : Int) + o) (hp : ((pc : Int) + o).toNat = pc1) (hq : pc + 3 = pc2) (h1 : ¬ (0 : Int32) < a → G h k n pc1 ls st) (h2 : (0 : Int32) < a → G h k n pc2 ls st) : G h k n pc ls (.int a :: st) := by
  by_cases hc : (0 : Int32) < a
  · exact C.if_le_F hd hc hq (h2 hc)
  · exact C.if_le_T hd hc ho hp (h1 hc)
theorem Cx.ldcI (C : Cx G l Z a0 ws R y bytes maxL ret n0 Q) {i idx : Nat} {v : Int32} (w : ws[i]? = some (Jvm.Cond.constant y.cls idx v)) (hd : decode bytes pc = .ok (.ldc idx, 2)) (hp : pc + 2 = pc') (hr : G h k n pc' ls (.int v :: st)) : G h k n pc ls st := by
  obtain ⟨p, e, s, m, args, below, meth, c, hx, hby, hml, hown, hnm, hret, hlk, hZ, hw, rfl⟩ := C
  subst hp
  exact lift (fun T locs X _ target q => X.ldcInt hx hown (mvT hZ (word hw w)) (g := mkF m pc ls st) rfl (hb hby hd) target q) hr
theorem Cx.ldcJ (C : Cx G l Z a0 ws R y bytes maxL ret n0 Q) {i idx : Nat} {v : Int64} (w : ws[i]? = some (Jvm.Cond.constantLong y.cls idx v)) (hd : decode bytes pc = .ok (.ldc2_w idx, 3)) (hp : pc + 3 = pc') (hr : G h k n pc' ls (.long v :: st)) : G h k n pc ls st := by
  obtain ⟨p, e, s, m, args, below, meth, c, hx, hby, hml, hown, hnm, hret, hlk, hZ, hw, rfl⟩ := C
  subst hp
  exact lift (fun T locs X _ target q => X.ldc2Long hx hown (mvT hZ (word hw w)) (g := mkF m pc ls st) rfl (hb hby hd) target q) hr
theorem Cx.ldcD (C : Cx G l Z a0 ws R y bytes maxL ret n0 Q) {i idx : Nat} {v : UInt64} (w : ws[i]? = some (Jvm.Cond.constantDouble y.cls idx v)) (hd : decode bytes pc = .ok (.ldc2_w idx, 3)) (hp : pc + 3 = pc') (hr : G h k n pc' ls (.double v :: st)) : G h k n pc ls st := by
  obtain ⟨p, e, s, m, args, below, meth, c, hx, hby, hml, hown, hnm, hret, hlk, hZ, hw, rfl⟩ := C
  subst hp
  exact lift (fun T locs X _ target q => X.ldc2DoubleC hx hown (mvT hZ (word hw w)) (g := mkF m pc ls st) rfl (hb hby hd) target q) hr
theorem castI {a b : Int32} (q : a = b) (hr : G h k n pc ls (.int b :: st)) : G h k n pc ls (.int a :: st) := by rw [q]; exact hr
theorem castJ {a b : Int64} (q : a = b) (hr : G h k n pc ls (.long b :: st)) : G h k n pc ls (.long a :: st) := by rw [q]; exact hr
theorem cmpL_lt {a b : Int64} : XT.cmpL a b < 0 ↔ a < b := by
  unfold XT.cmpL
  split
  · rename_i q; constructor
    · intro r; exact absurd r (by decide)
    · intro r; rw [Int64.lt_iff_toInt_lt] at q r; omega
  · split
    · rename_i q; subst q; constructor
      · intro r; exact absurd r (by decide)
      · intro r; rw [Int64.lt_iff_toInt_lt] at r; omega
    · rename_i p q; constructor
      · intro _; rw [Int64.lt_iff_toInt_lt] at p ⊢; have : a.toInt ≠ b.toInt := fun r => q (Int64.toInt_inj.mp r); omega
      · intro _; decide
theorem cmpL_gt {a b : Int64} : 0 < XT.cmpL a b ↔ b < a := by
  unfold XT.cmpL
  split
  · rename_i q; exact ⟨fun _ => q, fun _ => by decide⟩
  · rename_i p
    split
    · exact ⟨fun r => absurd r (by decide), fun r => absurd r p⟩
    · exact ⟨fun r => absurd r (by decide), fun r => absurd r p⟩
theorem cmpL_eq {a b : Int64} : XT.cmpL a b = 0 ↔ a = b := by
  unfold XT.cmpL
  split
  · rename_i q; constructor
    · intro r; exact absurd r (by decide)
    · intro r; subst r; rw [Int64.lt_iff_toInt_lt] at q; omega
  · split
    · rename_i q; exact ⟨fun _ => q, fun _ => rfl⟩
    · rename_i q; exact ⟨fun r => absurd r (by decide), fun r => absurd r q⟩
def b2i (b : Bool) : Int32 := match b with | true => 1 | false => 0
theorem b2i_f {b : Bool} (q : b2i b = 0) : b = false := by cases b with | false => rfl | true => exact absurd q (by decide)
theorem b2i_t {b : Bool} (q : ¬ b2i b = 0) : b = true := by cases b with | true => rfl | false => exact absurd rfl q
theorem nar_b (x : Int32) : nar .byte x.toInt8.toInt32 = x.toInt8.toInt32 := by simp [nar]
theorem Cx.ireturn (C : Cx G l Z a0 ws R y bytes maxL ret n0 Q) {a : Int32} (hd : decode bytes pc = .ok (.ireturn, 1)) (ht : ret = some .int) (hk : k ≤ R.cells) (hn : n ≤ R.slots) (hq : Q (some (.int a)) h) : G h k n pc ls (.int a :: st) := by
  obtain ⟨p, e, s, m, args, below, meth, c, hx, hby, hml, hown, hnm, hret, hlk, hZ, hw, rfl⟩ := C
  subst ht
  intro T locs X hT hF
  obtain ⟨fs, hr, hrun, hended, hW, hsame⟩ := X.leave (v := some (.int a)) (fun q => by rw [hret] at q; cases q) hlk
  refine ⟨_, _, retOut X hx hret rfl (Or.inl ⟨rfl, Or.inl rfl, a, rfl⟩) (hb hby hd) hr, hrun, hended, _, locs, rfl, ⟨?_, hF⟩, ⟨_, rfl⟩, hW, hsame.mono hk hn⟩
  show Q _ T.heap
  rw [hT]; exact hq
theorem Cx.nreturn (C : Cx G l Z a0 ws R y bytes maxL ret n0 Q) {a b : Int32} {t : FieldType} (hd : decode bytes pc = .ok (.ireturn, 1)) (ht : ret = some t) (ht' : t = .boolean ∨ t = .byte ∨ t = .char ∨ t = .short) (hk : k ≤ R.cells) (hn : n ≤ R.slots) (hb' : nar t a = b) (hq : Q (some (.int b)) h) : G h k n pc ls (.int a :: st) := by
  obtain ⟨p, e, s, m, args, below, meth, c, hx, hby, hml, hown, hnm, hret, hlk, hZ, hw, rfl⟩ := C
  subst ht hb'
  intro T locs X hT hF
  obtain ⟨fs, hr, hrun, hended, hW, hsame⟩ := X.leave (v := some (.int (nar t a))) (fun q => by rw [hret] at q; cases q) hlk
  refine ⟨_, _, retN X hx hret ht' (hb hby hd) hr, hrun, hended, _, locs, rfl, ⟨?_, hF⟩, ⟨_, rfl⟩, hW, hsame.mono hk hn⟩
  show Q _ T.heap
  rw [hT]; exact hq
theorem Cx.lreturn (C : Cx G l Z a0 ws R y bytes maxL ret n0 Q) {a : Int64} (hd : decode bytes pc = .ok (.lreturn, 1)) (ht : ret = some .long) (hk : k ≤ R.cells) (hn : n ≤ R.slots) (hq : Q (some (.long a)) h) : G h k n pc ls (.long a :: st) := by
  obtain ⟨p, e, s, m, args, below, meth, c, hx, hby, hml, hown, hnm, hret, hlk, hZ, hw, rfl⟩ := C
  subst ht
  intro T locs X hT hF
  obtain ⟨fs, hr, hrun, hended, hW, hsame⟩ := X.leave (v := some (.long a)) (fun q => by rw [hret] at q; cases q) hlk
  refine ⟨_, _, retOut X hx hret rfl (Or.inr (Or.inl ⟨rfl, rfl, a, rfl⟩)) (hb hby hd) hr, hrun, hended, _, locs, rfl, ⟨?_, hF⟩, ⟨_, rfl⟩, hW, hsame.mono hk hn⟩
  show Q _ T.heap
  rw [hT]; exact hq
theorem Cx.areturn (C : Cx G l Z a0 ws R y bytes maxL ret n0 Q) {a : Addr} {t : FieldType} (hd : decode bytes pc = .ok (.areturn, 1)) (ht : ret = some t) (ht' : t.isReference = true) (hnr : narrow t (.ref a) = .ref a) (hk : k ≤ R.cells) (hn : n ≤ R.slots) (hq : Q (some (.ref a)) h) : G h k n pc ls (.ref a :: st) := by
  obtain ⟨p, e, s, m, args, below, meth, c, hx, hby, hml, hown, hnm, hret, hlk, hZ, hw, rfl⟩ := C
  subst ht
  intro T locs X hT hF
  obtain ⟨fs, hr, hrun, hended, hW, hsame⟩ := X.leave (v := some (.ref a)) (fun q => by rw [hret] at q; cases q) hlk
  refine ⟨_, _, retOut X hx hret hnr (Or.inr (Or.inr (Or.inr (Or.inr ⟨rfl, ht', rfl⟩)))) (hb hby hd) hr, hrun, hended, _, locs, rfl, ⟨?_, hF⟩, ⟨_, rfl⟩, hW, hsame.mono hk hn⟩
  show Q _ T.heap
  rw [hT]; exact hq
theorem Cx.vreturn (C : Cx G l Z a0 ws R y bytes maxL ret n0 Q) (hd : decode bytes pc = .ok (.return_, 1)) (ht : ret = none) (hk : k ≤ R.cells) (hn : n ≤ R.slots) (hq : Q none h) : G h k n pc ls [] := by
  obtain ⟨p, e, s, m, args, below, meth, c, hx, hby, hml, hown, hnm, hret, hlk, hZ, hw, rfl⟩ := C
  subst ht
  intro T locs X hT hF
  obtain ⟨fs, hr, hrun, hended, hW, hsame⟩ := X.leave (v := none) (fun _ => rfl) hlk
  refine ⟨_, _, X.returnOut hx hret (hb hby hd) hr, hrun, hended, _, locs, rfl, ⟨?_, hF⟩, ⟨_, rfl⟩, hW, hsame.mono hk hn⟩
  show Q _ T.heap
  rw [hT]; exact hq
def Lst (Z : State) (h : Heap) (a : Addr) (ty : FieldType) (vs : List Value) : Prop := ∃ c : Cell, Arr Z h a c ty ∧ c.slots = vs.toArray
theorem Lst.lt {Z : State} {h : Heap} {a : Addr} {ty : FieldType} {vs : List Value} (F : Lst Z h a ty vs) : a < h.size := by obtain ⟨c, A, -⟩ := F; exact A.lt
theorem Lst.ext {Z : State} {h h' : Heap} {a : Addr} {ty : FieldType} {vs : List Value} (F : Lst Z h a ty vs) (E : Ext h h') : Lst Z h' a ty vs := by obtain ⟨c, A, r⟩ := F; exact ⟨c, A.ext E, r⟩
theorem Lst.other {Z : State} {h h' : Heap} {a b : Addr} {sl : Nat} {v : Value} {ty : FieldType} {vs : List Value} (F : Lst Z h b ty vs) (W : Wr h h' a sl v) (q : b ≠ a) : Lst Z h' b ty vs := by obtain ⟨c, A, r⟩ := F; exact ⟨c, A.other W q, r⟩
theorem Lst.keep {Z : State} {h h' : Heap} {a : Addr} {wr : List Addr} {ty : FieldType} {vs : List Value} (F : Lst Z h a ty vs) (K : Keep h h' wr) (q : a ∉ wr) : Lst Z h' a ty vs := by obtain ⟨c, A, r⟩ := F; exact ⟨c, ⟨K.2.1 a c A.1 q, A.2⟩, r⟩
def Idx (j : Int32) (i : Nat) : Prop := ¬ j < 0 ∧ j.toNatClampNeg = i
theorem Idx.of {j : Int32} {i : Nat} (h : j.toInt = (i : Int)) : Idx j i := by
  refine ⟨fun q => ?_, ?_⟩
  · rw [Int32.lt_iff_toInt_lt] at q; have : (0 : Int32).toInt = 0 := rfl; omega
  · simp only [Int32.toNatClampNeg]; omega
theorem Idx.int {j : Int32} {i : Nat} (h : Idx j i) : j.toInt = (i : Int) := by rw [nat_of h.1, h.2]
theorem Idx.bound {j : Int32} {i : Nat} {c : Cell} {vs : List Value} (h : Idx j i) (r : c.slots = vs.toArray) (hi : i < vs.length) : ¬ (j < 0 ∨ c.slots.size ≤ j.toNatClampNeg) := by
  rintro (q | q)
  · exact h.1 q
  · rw [h.2, r] at q; simp at q; omega
theorem Cx.arraylength (C : Cx G l Z a0 ws R y bytes maxL ret n0 Q) {a : Addr} {ty : FieldType} {vs : List Value} {N : Int32} (A : Lst Z h a ty vs) (hN : vs.length.toInt32 = N) (hd : decode bytes pc = .ok (.arraylength, 1)) (hp : pc + 1 = pc') (hr : G h k n pc' ls (.int N :: st)) : G h k n pc ls (.ref a :: st) := by
  obtain ⟨p, e, s, m, args, below, meth, c, hx, hby, hml, hown, hnm, hret, hlk, hZ, hw, rfl⟩ := C
  subst hp hN
  obtain ⟨cl, A, r⟩ := A
  refine lift (fun T locs X hT target q => X.arraylength hx (by rw [hT]; exact A.1) (State.isArrayOf_alike hZ.alike A.2.1) (g := mkF m pc ls (.ref a :: st)) rfl rfl (hb hby hd) target ?_) hr
  rw [r]; exact q
theorem Cx.iaload (C : Cx G l Z a0 ws R y bytes maxL ret n0 Q) {a : Addr} {vs : List Value} {j : Int32} {i : Nat} {v : Value} (A : Lst Z h a .int vs) (hj : Idx j i) (hv : vs[i]? = some v) (hd : decode bytes pc = .ok (.iaload, 1)) (hp : pc + 1 = pc') (hr : G h k n pc' ls (v :: st)) : G h k n pc ls (.int j :: .ref a :: st) := by
  obtain ⟨p, e, s, m, args, below, meth, c, hx, hby, hml, hown, hnm, hret, hlk, hZ, hw, rfl⟩ := C
  subst hp
  obtain ⟨cl, A, r⟩ := A
  exact lift (fun T locs X hT target q => X.iaload hx (by rw [hT]; exact A.1) (State.isArrayOf_alike hZ.alike A.2.1) A.2.2 (hj.bound r (List.getElem?_eq_some_iff.mp hv).1) (by rw [hj.2, r]; simpa using hv) (g := mkF m pc ls (.int j :: .ref a :: st)) rfl rfl (hb hby hd) target q) hr
theorem Cx.baload (C : Cx G l Z a0 ws R y bytes maxL ret n0 Q) {a : Addr} {vs : List Value} {j : Int32} {i : Nat} {v : Value} (A : Lst Z h a .byte vs) (hj : Idx j i) (hv : vs[i]? = some v) (hd : decode bytes pc = .ok (.baload, 1)) (hp : pc + 1 = pc') (hr : G h k n pc' ls (v :: st)) : G h k n pc ls (.int j :: .ref a :: st) := by
  obtain ⟨p, e, s, m, args, below, meth, c, hx, hby, hml, hown, hnm, hret, hlk, hZ, hw, rfl⟩ := C
  subst hp
  obtain ⟨cl, A, r⟩ := A
  exact lift (fun T locs X hT target q => X.baloadBytes hx (by rw [hT]; exact A.1) (State.isArrayOf_alike hZ.alike A.2.1) A.2.2 (hj.bound r (List.getElem?_eq_some_iff.mp hv).1) (by rw [hj.2, r]; simpa using hv) (g := mkF m pc ls (.int j :: .ref a :: st)) rfl rfl (hb hby hd) target q) hr
theorem Lst.same {Z : State} {h h' : Heap} {a : Addr} {i : Nat} {v : Value} {ty : FieldType} {vs : List Value} (F : Lst Z h a ty vs) (W : Wr h h' a i v) : Lst Z h' a ty (vs.set i v) := by
  obtain ⟨c, A, r⟩ := F
  exact ⟨_, A.same W, by simp [Cell.setSlot, r]⟩
theorem Cx.iastore (C : Cx G l Z a0 ws R y bytes maxL ret n0 Q) {a : Addr} {vs vs' : List Value} {j x : Int32} {i : Nat} (A : Lst Z h a .int vs) (hj : Idx j i) (hi : i < vs.length) (hs : vs.set i (.int x) = vs') (ga : n0 ≤ a) (hd : decode bytes pc = .ok (.iastore, 1)) (hp : pc + 1 = pc') (hr : ∀ h', Wr h h' a i (.int x) → Lst Z h' a .int vs' → G h' k n pc' ls st) : G h k n pc ls (.int x :: .int j :: .ref a :: st) := by
  obtain ⟨p, e, s, m, args, below, meth, c, hx, hby, hml, hown, hnm, hret, hlk, hZ, hw, rfl⟩ := C
  subst hp hs
  have A' := A
  obtain ⟨cl, A, r⟩ := A
  intro T locs X hT hF
  obtain ⟨T', h', X', e', W', s'⟩ := stI X hx hZ hT A (hj.bound r hi) (g := mkF m pc ls (.int x :: .int j :: .ref a :: st)) rfl rfl (hb hby hd)
  rw [hj.2] at W'
  obtain ⟨s₂, o, h1, h2⟩ := hr h' W' (A'.same W') T' _ X' e' (Fr.snoc X' hF ga)
  exact ⟨s₂, o, s' _ h1, h2⟩
theorem Cx.bastore (C : Cx G l Z a0 ws R y bytes maxL ret n0 Q) {a : Addr} {vs vs' : List Value} {j x x' : Int32} {i : Nat} (A : Lst Z h a .byte vs) (hj : Idx j i) (hi : i < vs.length) (hx' : nar .byte x = x') (hs : vs.set i (.int x') = vs') (ga : n0 ≤ a) (hd : decode bytes pc = .ok (.bastore, 1)) (hp : pc + 1 = pc') (hr : ∀ h', Wr h h' a i (.int x') → Lst Z h' a .byte vs' → G h' k n pc' ls st) : G h k n pc ls (.int x :: .int j :: .ref a :: st) := by
  obtain ⟨p, e, s, m, args, below, meth, c, hx, hby, hml, hown, hnm, hret, hlk, hZ, hw, rfl⟩ := C
  subst hp hs hx'
  have A' := A
  obtain ⟨cl, A, r⟩ := A
  intro T locs X hT hF
  obtain ⟨T', h', X', e', W', s'⟩ := stB X hx hZ hT A (hj.bound r hi) (g := mkF m pc ls (.int x :: .int j :: .ref a :: st)) rfl rfl (hb hby hd)
  rw [hj.2] at W'
  obtain ⟨s₂, o, h1, h2⟩ := hr h' W' (A'.same W') T' _ X' e' (Fr.snoc X' hF ga)
  exact ⟨s₂, o, s' _ h1, h2⟩
theorem Cx.dastore (C : Cx G l Z a0 ws R y bytes maxL ret n0 Q) {a : Addr} {vs : List Value} {j : Int32} {x : UInt64} {i : Nat} (A : Lst Z h a .double vs) (hj : Idx j i) (hi : i < vs.length) (ga : n0 ≤ a) (hd : decode bytes pc = .ok (.dastore, 1)) (hp : pc + 1 = pc') (hr : ∀ h', Wr h h' a i (.double x) → Lst Z h' a .double (vs.set i (.double x)) → G h' k n pc' ls st) : G h k n pc ls (.double x :: .int j :: .ref a :: st) := by
  obtain ⟨p, e, s, m, args, below, meth, c, hx, hby, hml, hown, hnm, hret, hlk, hZ, hw, rfl⟩ := C
  subst hp
  have A' := A
  obtain ⟨cl, A, r⟩ := A
  intro T locs X hT hF
  obtain ⟨T', h', X', e', W', s'⟩ := stD X hx hZ hT A (hj.bound r hi) (g := mkF m pc ls (.double x :: .int j :: .ref a :: st)) rfl rfl (hb hby hd)
  rw [hj.2] at W'
  obtain ⟨s₂, o, h1, h2⟩ := hr h' W' (A'.same W') T' _ X' e' (Fr.snoc X' hF ga)
  exact ⟨s₂, o, s' _ h1, h2⟩
theorem Cx.newarray (C : Cx G l Z a0 ws R y bytes maxL ret n0 Q) {w : Nat} {aty : ArrayType} {ty : FieldType} {d : Value} {vs : List Value} {len : Int32} {N cap : Nat} (hty : newarray.typeOf aty = ty) (hwd : ws[w]? = some (Jvm.Cond.arrayClass ty)) (hj : Idx len N) (hdv : defaultValue ty = d) (hvs : List.replicate N d = vs) (hcap : N ≤ cap) (hb8 : cap * 8 ≤ 536870912) (hc : k + 1 ≤ R.cells) (hl : n + cap ≤ R.slots) (hd : decode bytes pc = .ok (.newarray aty, 2)) (hp : pc + 2 = pc')
    (hr : ∀ h' a, a = h.size → Ext h h' → Lst Z h' a ty vs → G h' (k + 1) (n + cap) pc' ls (.ref a :: st)) : G h k n pc ls (.int len :: st) := by
  obtain ⟨p, e, s, m, args, below, meth, c, hx, hby, hml, hown, hnm, hret, hlk, hZ, hw, rfl⟩ := C
  subst hp hty hdv hvs
  intro T locs X hT hF
  obtain ⟨T', h', cA, X', e', E', A', s'⟩ := newP X hx hZ (word hw hwd) hT (g := mkF m pc ls (.int len :: st)) rfl (hb hby hd) rfl hj.1 (cap := cap) (by rw [hj.2]; exact hcap) hb8 hc hl
  obtain ⟨s₂, o, h1, h2⟩ := hr h' h.size rfl E' ⟨_, A', by simp [newA, hj.2]⟩ T' _ X' e' hF
  exact ⟨s₂, o, s' _ h1, h2⟩
theorem Cx.newO (C : Cx G l Z a0 ws R y bytes maxL ret n0 Q) {i1 i2 i3 idx nn : Nat} {K : String} (w1 : ws[i1]? = some (Jvm.Cond.classLink y.cls idx K)) (w2 : ws[i2]? = some (Jvm.Cond.instantiable K nn)) (w3 : ws[i3]? = some (Jvm.Cond.initialized K)) (hc : k + 1 ≤ R.cells) (hl : n + nn ≤ R.slots) (hd : decode bytes pc = .ok (.new idx, 3)) (hp : pc + 3 = pc')
    (hr : ∀ h' a, a = h.size → Ext h h' → Exa Z h' a K → (∀ {O nm d : String} {ty : FieldType}, Laid Z a0 K O nm d → parseFieldDescriptor d = some ty → Fld Z h' a O nm d (defaultValue ty)) → G h' (k + 1) (n + nn) pc' ls (.ref a :: st)) : G h k n pc ls st := by
  obtain ⟨p, e, s, m, args, below, meth, c, hx, hby, hml, hown, hnm, hret, hlk, hZ, hw, rfl⟩ := C
  subst hp
  intro T locs X hT hF
  obtain ⟨T', h', X', e', E', A', D', -, s'⟩ := RoadKit.newO X hx hZ hown (word hw w1) (word hw w2) (word hw w3) hT (g := mkF m pc ls st) rfl (hb hby hd) hc hl
  obtain ⟨s₂, o, h1, h2⟩ := hr h' h.size rfl E' A' D' T' _ X' e' hF
  exact ⟨s₂, o, s' _ h1, h2⟩
theorem Cx.getfield (C : Cx G l Z a0 ws R y bytes maxL ret n0 Q) {i idx : Nat} {O f d : String} {a : Addr} {v : Value} (w : ws[i]? = some (Jvm.Cond.fieldLink y.cls idx O f d)) (F : Fld Z h a O f d v) (hd : decode bytes pc = .ok (.getfield idx, 3)) (hp : pc + 3 = pc') (hr : G h k n pc' ls (v :: st)) : G h k n pc ls (.ref a :: st) := by
  obtain ⟨p, e, s, m, args, below, meth, c, hx, hby, hml, hown, hnm, hret, hlk, hZ, hw, rfl⟩ := C
  subst hp
  intro T locs X hT hF
  obtain ⟨T', X', e', s'⟩ := getF X hx hZ hown (host := "") (Or.inl (word hw w)) Via.refl hT F (g := mkF m pc ls (.ref a :: st)) rfl rfl (hb hby hd)
  obtain ⟨s₂, o, h1, h2⟩ := hr T' _ X' e' hF
  exact ⟨s₂, o, s' _ h1, h2⟩
theorem Cx.getstatic (C : Cx G l Z a0 ws R y bytes maxL ret n0 Q) {i idx : Nat} {O f d : String} {v : Value} (w : ws[i]? = some (Jvm.Cond.fieldLink y.cls idx O f d)) (F : Sta Z h O f d v) (hd : decode bytes pc = .ok (.getstatic idx, 3)) (hp : pc + 3 = pc') (hr : G h k n pc' ls (v :: st)) : G h k n pc ls st := by
  obtain ⟨p, e, s, m, args, below, meth, c, hx, hby, hml, hown, hnm, hret, hlk, hZ, hw, rfl⟩ := C
  subst hp
  intro T locs X hT hF
  obtain ⟨T', X', e', s'⟩ := getS X hx hZ (host := "") hown (word hw w) Via.refl hT F (g := mkF m pc ls st) rfl (hb hby hd)
  obtain ⟨s₂, o, h1, h2⟩ := hr T' _ X' e' hF
  exact ⟨s₂, o, s' _ h1, h2⟩
theorem Cx.putfield (C : Cx G l Z a0 ws R y bytes maxL ret n0 Q) {i i2 i3 idx kk : Nat} {O f d K : String} {a : Addr} {v v' old : Value} {ty : FieldType} (w : ws[i]? = some (Jvm.Cond.fieldLink y.cls idx O f d)) (w2 : ws[i2]? = some (Jvm.Cond.lays K O f d) ∨ (ws[i2]? = some (Jvm.Cond.laysFinal K O f d) ∧ y.cls = O ∧ y.name = "<init>")) (w3 : ws[i3]? = some (Jvm.Cond.instantiable K kk)) (F : Fld Z h a O f d old) (E : Exa Z h a K) (hty : parseFieldDescriptor d = some ty) (hnv : narrow ty v = v') (hfv : fits ty v' = true) (ga : n0 ≤ a) (hd : decode bytes pc = .ok (.putfield idx, 3)) (hp : pc + 3 = pc')
    (hr : ∀ h', Wr h h' a (Jvm.RoadKit.slotOf Z O f d) v' → G h' k n pc' ls st) : G h k n pc ls (v :: .ref a :: st) := by
  obtain ⟨p, e, s, m, args, below, meth, c, hx, hby, hml, hown, hnm, hret, hlk, hZ, hw, rfl⟩ := C
  subst hp
  intro T locs X hT hF
  obtain ⟨T', h', X', e', W', s'⟩ := putFN X hx hZ hown (word hw w) Via.refl hT F E (w2.elim (fun q => Or.inl (word hw q)) (fun q => Or.inr ⟨word hw q.1, q.2.1, hnm.trans q.2.2⟩)) (word hw w3) hty hnv hfv (g := mkF m pc ls (v :: .ref a :: st)) rfl rfl (hb hby hd)
  obtain ⟨s₂, o, h1, h2⟩ := hr h' W' T' _ X' e' (Fr.snoc X' hF ga)
  exact ⟨s₂, o, s' _ h1, h2⟩
theorem Cx.initO (C : Cx G l Z a0 ws R y bytes maxL ret n0 Q) {i1 i2 i3 idx W : Nat} {a : Addr} (w1 : ws[i1]? = some (Jvm.Cond.methodLink y.cls idx Lib.objectInit)) (w2 : ws[i2]? = some (Jvm.Cond.instanceMethod Lib.objectInit)) (w3 : ws[i3]? = some (Jvm.Cond.code Lib.objectInit Jvm.LibCode.Object.Init0.code 1 none)) (hsz : ls.size = maxL) (hf : 1 ≤ R.frames) (hW : (st.map fun v => v.category).sum = W) (hl : W + 12 ≤ R.locals) (hd : decode bytes pc = .ok (.invokespecial idx, 3)) (hp : pc + 3 = pc') (hr : G h k n pc' ls st) : G h k n pc ls (.ref a :: st) := by
  obtain ⟨p, e, s, m, args, below, meth, c, hx, hby, hml, hown, hnm, hret, hlk, hZ, hw, rfl⟩ := C
  subst hp
  intro T locs X hT hF
  obtain ⟨T', X', e', s'⟩ := RoadKit.initO X hx hZ hown (word hw w1) (word hw w2) (word hw w3) hT (g := mkF m pc ls (.ref a :: st)) rfl (by rw [hml]; exact hsz) rfl (hb hby hd) hf (W := W) (by rw [← hW]; show 2 * 0 + _ ≤ _; omega) hl
  obtain ⟨s₂, o, h1, h2⟩ := hr T' _ X' e' hF
  exact ⟨s₂, o, s' _ h1, h2⟩
theorem Cx.callS (C : Cx G l Z a0 ws R y bytes maxL ret n0 Q) {y' : MethodName} {bytes' : ByteArray} {maxL' : Nat} {ret' : Option FieldType} {rm : Room} {as : Array Value} {Q' : Option Value → Heap → Prop} (hM : Ctr l Z y' bytes' maxL' ret' rm n0 as h Q' []) {i1 i2 i3 i4 idx W : Nat} (w1 : ws[i1]? = some (Jvm.Cond.methodLink y.cls idx y')) (w2 : ws[i2]? = some (Jvm.Cond.static y')) (w3 : ws[i3]? = some (Jvm.Cond.initialized y'.cls)) (w4 : ws[i4]? = some (Jvm.Cond.code y' bytes' maxL' ret'))
    (hy : y'.cls ≠ "java/lang/invoke/MethodHandle" ∧ y'.cls ≠ "java/lang/invoke/VarHandle") {argsL : List Value} {ps : List FieldType} {rt : Option FieldType} (hps : parseMethodDescriptor y'.desc = some ⟨ps, rt⟩) (hln : argsL.length = ps.length) (has : argsL.toArray = as) (hst : st = argsL.reverse ++ rest) (hsz : ls.size = maxL) (hW : (rest.map fun v => v.category).sum = W) (hf : rm.frames + 1 ≤ R.frames) (hl : W + (maxL' + 11) + rm.locals ≤ R.locals) (hc : k + rm.cells ≤ R.cells) (hn : n + rm.slots ≤ R.slots) (hd : decode bytes pc = .ok (.invokestatic idx, 3)) (hp : pc + 3 = pc') (hk' : k + rm.cells = k') (hn' : n + rm.slots = n')
    (hr : ∀ v h', Q' v h' → G h' k' n' pc' ls (v.toList ++ rest)) : G h k n pc ls st := by
  obtain ⟨p, e, s, m, args, below, meth, c, hx, hby, hml, hown, hnm, hret, hlk, hZ, hw, rfl⟩ := C
  subst hp has hst hk' hn'
  intro T locs X hT hF
  obtain ⟨v, _, ⟨T', L', k9, n9⟩, -, X', ⟨Lc, hQ, e1, e2, e3⟩, s'⟩ := Jvm.LawKit.callS X hx (y := y') hown (mvT hZ (word hw w1)) (mvT hZ (word hw w2)) (mvT hZ (word hw w3)) (mvT hZ (word hw w4)) hy (backOf (Q := fun v h L => Q' v h ∧ Fr n0 L) (W := W) hM hZ (word hw w4) (word hw w3) hf hl) (g := mkF m pc ls (argsL.reverse ++ rest)) rfl (by rw [hml]; exact hsz) (argsL := argsL) (rest := rest) (lenOf hps hln) rfl (by rw [← hW]; show 2 * 0 + _ ≤ _; omega) (hb hby hd) (fun _ _ => ⟨rfl, hT, hc, hn⟩)
  dsimp only [Pt.U, Pt.locs, Pt.cells, Pt.slots] at X' e1 e2 e3 s' hQ
  subst e1 e2 e3
  obtain ⟨s₂, o, h1, h2⟩ := hr v T'.heap hQ.1 T' _ X' rfl (Fr.app hF hQ.2)
  exact ⟨s₂, o, s' _ h1, h2⟩
theorem Cx.callI (C : Cx G l Z a0 ws R y bytes maxL ret n0 Q) {y' : MethodName} {bytes' : ByteArray} {maxL' : Nat} {rm : Room} {as : Array Value} {Q' : Option Value → Heap → Prop} {a : Addr} (hM : Ctr l Z y' bytes' maxL' none rm n0 as h Q' []) {i1 i2 i3 i4 idx W : Nat} (w1 : ws[i1]? = some (Jvm.Cond.methodLink y.cls idx y')) (w2 : ws[i2]? = some (Jvm.Cond.instanceMethod y')) (w3 : ws[i3]? = some (Jvm.Cond.initialized y'.cls)) (w4 : ws[i4]? = some (Jvm.Cond.code y' bytes' maxL' none)) (hi : y'.name = "<init>")
    (hy : y'.cls ≠ "java/lang/invoke/MethodHandle" ∧ y'.cls ≠ "java/lang/invoke/VarHandle") {argsL : List Value} {ps : List FieldType} {rt : Option FieldType} (hps : parseMethodDescriptor y'.desc = some ⟨ps, rt⟩) (hln : argsL.length = ps.length) (has : (.ref a :: argsL).toArray = as) (hst : st = argsL.reverse ++ .ref a :: rest) (hsz : ls.size = maxL) (hW : (rest.map fun v => v.category).sum = W) (hf : rm.frames + 1 ≤ R.frames) (hl : W + (maxL' + 11) + rm.locals ≤ R.locals) (hc : k + rm.cells ≤ R.cells) (hn : n + rm.slots ≤ R.slots) (hd : decode bytes pc = .ok (.invokespecial idx, 3)) (hp : pc + 3 = pc') (hk' : k + rm.cells = k') (hn' : n + rm.slots = n')
    (hr : ∀ v h', Q' v h' → G h' k' n' pc' ls (v.toList ++ rest)) : G h k n pc ls st := by
  obtain ⟨p, e, s, m, args, below, meth, c, hx, hby, hml, hown, hnm, hret, hlk, hZ, hw, rfl⟩ := C
  subst hp has hst hk' hn'
  intro T locs X hT hF
  obtain ⟨v, _, ⟨T', L', k9, n9⟩, -, X', ⟨Lc, hQ, e1, e2, e3⟩, s'⟩ := X.specialBack hx (y := y') hi hown (mvT hZ (word hw w1)) (mvT hZ (word hw w2)) (mvT hZ (word hw w4)) hy (backOf (Q := fun v h L => Q' v h ∧ Fr n0 L) (W := W) hM hZ (word hw w4) (word hw w3) hf hl) (g := mkF m pc ls (argsL.reverse ++ .ref a :: rest)) rfl (by rw [hml]; exact hsz) (Steps.refl _) (a := a) (argsL := argsL) (rest := rest) (lenOf hps hln) rfl (by rw [← hW]; show 2 * 0 + _ ≤ _; omega) (hb hby hd) (fun _ _ => ⟨rfl, hT, hc, hn⟩)
  dsimp only [Pt.U, Pt.locs, Pt.cells, Pt.slots] at X' e1 e2 e3 s' hQ
  subst e1 e2 e3
  obtain ⟨s₂, o, h1, h2⟩ := hr v T'.heap hQ.1 T' _ X' rfl (Fr.app hF hQ.2)
  exact ⟨s₂, o, s'.trans h1, h2⟩
theorem Cx.callV (C : Cx G l Z a0 ws R y bytes maxL ret n0 Q) {y' : MethodName} {bytes' : ByteArray} {maxL' : Nat} {ret' : Option FieldType} {rm : Room} {as : Array Value} {Q' : Option Value → Heap → Prop} {a : Addr} {K : String} (hM : Ctr l Z y' bytes' maxL' ret' rm n0 as h Q' []) (hE : Exa Z h a K) {i1 i2 i3 i4 i5 i6 idx W : Nat} (w1 : ws[i1]? = some (Jvm.Cond.methodLink y.cls idx y')) (w2 : ws[i2]? = some (Jvm.Cond.declares y')) (w3 : ws[i3]? = some (Jvm.Cond.instanceMethod y')) (w4 : ws[i4]? = some (Jvm.Cond.selects K y' y')) (w5 : ws[i5]? = some (Jvm.Cond.code y' bytes' maxL' ret')) (w6 : ws[i6]? = some (Jvm.Cond.initialized y'.cls))
    (hy : y'.cls ≠ "java/lang/invoke/MethodHandle" ∧ y'.cls ≠ "java/lang/invoke/VarHandle") {argsL : List Value} {ps : List FieldType} {rt : Option FieldType} (hps : parseMethodDescriptor y'.desc = some ⟨ps, rt⟩) (hln : argsL.length = ps.length) (has : (.ref a :: argsL).toArray = as) (hst : st = argsL.reverse ++ .ref a :: rest) (hsz : ls.size = maxL) (hW : (rest.map fun v => v.category).sum = W) (hf : rm.frames + 1 ≤ R.frames) (hl : W + (maxL' + 11) + rm.locals ≤ R.locals) (hc : k + rm.cells ≤ R.cells) (hn : n + rm.slots ≤ R.slots) (hd : decode bytes pc = .ok (.invokevirtual idx, 3)) (hp : pc + 3 = pc') (hk' : k + rm.cells = k') (hn' : n + rm.slots = n')
    (hr : ∀ v h', Q' v h' → G h' k' n' pc' ls (v.toList ++ rest)) : G h k n pc ls st := by
  obtain ⟨p, e, s, m, args, below, meth, c, hx, hby, hml, hown, hnm, hret, hlk, hZ, hw, rfl⟩ := C
  subst hp has hst hk' hn'
  intro T locs X hT hF
  obtain ⟨cq, kq, qa, qb, qc⟩ := isOf hZ hT hE
  obtain ⟨v, _, ⟨T', L', k9, n9⟩, -, X', ⟨Lc, hQ, e1, e2, e3⟩, s'⟩ := X.virtualBack hx (y := y') (z := y') hown (mvT hZ (word hw w1)) (mvT hZ (word hw w2)) (notFace_of_selects (args := #[]) (mvT hZ (word hw w4))) (mvT hZ (word hw w4)) (mvT hZ (word hw w3)) hy (backOf (Q := fun v h L => Q' v h ∧ Fr n0 L) (W := W) hM hZ (word hw w5) (word hw w6) hf hl) qa qc (g := mkF m pc ls (argsL.reverse ++ .ref a :: rest)) rfl (by rw [hml]; exact hsz) (Steps.refl _) (argsL := argsL) (rest := rest) (lenOf hps hln) rfl (by rw [← hW]; show 2 * 0 + _ ≤ _; omega) (hb hby hd) (fun _ _ => ⟨rfl, hT, hc, hn⟩)
  dsimp only [Pt.U, Pt.locs, Pt.cells, Pt.slots] at X' e1 e2 e3 s' hQ
  subst e1 e2 e3
  obtain ⟨s₂, o, h1, h2⟩ := hr v T'.heap hQ.1 T' _ X' rfl (Fr.app hF hQ.2)
  exact ⟨s₂, o, s'.trans h1, h2⟩
theorem Cx.callSP (C : Cx G l Z a0 ws R y bytes maxL ret n0 Q) {y' : MethodName} {bytes' : ByteArray} {maxL' : Nat} {ret' : Option FieldType} {rm : Room} {as : Array Value} {r : Value} (hM : Ctr l Z y' bytes' maxL' ret' rm n0 as h (fun v h' => v = some r ∧ h' = h) []) {i1 i2 i3 i4 idx W : Nat} (w1 : ws[i1]? = some (Jvm.Cond.methodLink y.cls idx y')) (w2 : ws[i2]? = some (Jvm.Cond.static y')) (w3 : ws[i3]? = some (Jvm.Cond.initialized y'.cls)) (w4 : ws[i4]? = some (Jvm.Cond.code y' bytes' maxL' ret'))
    (hy : y'.cls ≠ "java/lang/invoke/MethodHandle" ∧ y'.cls ≠ "java/lang/invoke/VarHandle") {argsL : List Value} {ps : List FieldType} {rt : Option FieldType} (hps : parseMethodDescriptor y'.desc = some ⟨ps, rt⟩) (hln : argsL.length = ps.length) (has : argsL.toArray = as) (hst : st = argsL.reverse ++ rest) (hsz : ls.size = maxL) (hW : (rest.map fun v => v.category).sum = W) (hf : rm.frames + 1 ≤ R.frames) (hl : W + (maxL' + 11) + rm.locals ≤ R.locals) (hc : k + rm.cells ≤ R.cells) (hn : n + rm.slots ≤ R.slots) (hd : decode bytes pc = .ok (.invokestatic idx, 3)) (hp : pc + 3 = pc') (hk' : k + rm.cells = k') (hn' : n + rm.slots = n')
    (hr : G h k' n' pc' ls (r :: rest)) : G h k n pc ls st :=
  C.callS hM w1 w2 w3 w4 hy hps hln has hst hsz hW hf hl hc hn hd hp hk' hn' (fun v h' q => by obtain ⟨rfl, rfl⟩ := q; exact hr)
theorem Cx.callVP (C : Cx G l Z a0 ws R y bytes maxL ret n0 Q) {y' : MethodName} {bytes' : ByteArray} {maxL' : Nat} {ret' : Option FieldType} {rm : Room} {as : Array Value} {r : Value} {a : Addr} {K : String} (hM : Ctr l Z y' bytes' maxL' ret' rm n0 as h (fun v h' => v = some r ∧ h' = h) []) (hE : Exa Z h a K) {i1 i2 i3 i4 i5 i6 idx W : Nat} (w1 : ws[i1]? = some (Jvm.Cond.methodLink y.cls idx y')) (w2 : ws[i2]? = some (Jvm.Cond.declares y')) (w3 : ws[i3]? = some (Jvm.Cond.instanceMethod y')) (w4 : ws[i4]? = some (Jvm.Cond.selects K y' y')) (w5 : ws[i5]? = some (Jvm.Cond.code y' bytes' maxL' ret')) (w6 : ws[i6]? = some (Jvm.Cond.initialized y'.cls))
    (hy : y'.cls ≠ "java/lang/invoke/MethodHandle" ∧ y'.cls ≠ "java/lang/invoke/VarHandle") {argsL : List Value} {ps : List FieldType} {rt : Option FieldType} (hps : parseMethodDescriptor y'.desc = some ⟨ps, rt⟩) (hln : argsL.length = ps.length) (has : (.ref a :: argsL).toArray = as) (hst : st = argsL.reverse ++ .ref a :: rest) (hsz : ls.size = maxL) (hW : (rest.map fun v => v.category).sum = W) (hf : rm.frames + 1 ≤ R.frames) (hl : W + (maxL' + 11) + rm.locals ≤ R.locals) (hc : k + rm.cells ≤ R.cells) (hn : n + rm.slots ≤ R.slots) (hd : decode bytes pc = .ok (.invokevirtual idx, 3)) (hp : pc + 3 = pc') (hk' : k + rm.cells = k') (hn' : n + rm.slots = n')
    (hr : G h k' n' pc' ls (r :: rest)) : G h k n pc ls st :=
  C.callV hM hE w1 w2 w3 w4 w5 w6 hy hps hln has hst hsz hW hf hl hc hn hd hp hk' hn' (fun v h' q => by obtain ⟨rfl, rfl⟩ := q; exact hr)
theorem Lst.arv {h : Heap} {a : Addr} {ty : FieldType} {vs : List Value} {z : Int32} {dv : Value} (F : Lst Z h a ty vs) (hz : Idx z vs.length) (hf : ∀ i, i < vs.length → fits ty (vs.getD i dv) = true) : ∃ kk, Arv Z h a kk ty z vs dv := by
  obtain ⟨c, A, r⟩ := F
  have hs : c.slots.size = vs.length := by rw [r]; simp
  refine ⟨c.cls, c, A, rfl, by rw [hs, hz.2], hz.1, fun i hi => ?_, fun i hi => hf i (by omega)⟩
  rw [r, List.getElem?_toArray, List.getD_eq_getElem?_getD, List.getElem?_eq_getElem (by omega)]; rfl
theorem Lst.of_arv {h : Heap} {a : Addr} {ty : FieldType} {vs : List Value} {z : Int32} {dv : Value} {kk : ClassId} (F : Arv Z h a kk ty z vs dv) (hz : Idx z vs.length) : Lst Z h a ty vs := by
  obtain ⟨c, A, -, hs, -, hh, -⟩ := F
  refine ⟨c, A, ?_⟩
  have hl : c.slots.size = vs.length := by rw [hs, hz.2]
  apply Array.ext
  · simpa using hl
  · intro i h1 h2
    have q := hh i h1
    rw [Array.getElem?_eq_getElem h1, List.getD_eq_getElem?_getD, List.getElem?_eq_getElem (by omega)] at q
    simpa using q
theorem Cx.arraycopy (C : Cx G l Z a0 ws R y bytes maxL ret n0 Q) {a b : Addr} {ty : FieldType} {vs vd us vs' : List Value} {sp dp nn za zb : Int32} {i j N W i1 i2 i3 i4 idx : Nat} {dv : Value} (w1 : ws[i1]? = some (Jvm.Cond.methodLink y.cls idx Jvm.Stand.acN)) (w2 : ws[i2]? = some (Jvm.Cond.native Jvm.Stand.acN)) (w3 : ws[i3]? = some (Jvm.Cond.static Jvm.Stand.acN)) (w4 : ws[i4]? = some (Jvm.Cond.initialized "java/lang/System"))
    (A : Lst Z h a ty vs) (B : Lst Z h b ty vd) (hA : Idx za vs.length) (hB : Idx zb vd.length) (fA : ∀ i, i < vs.length → fits ty (vs.getD i dv) = true) (fB : ∀ i, i < vd.length → fits ty (vd.getD i dv) = true) (hty : refKind ty = false) (hi : Idx sp i) (hj : Idx dp j) (hN : Idx nn N) (hl1 : i + N ≤ vs.length) (hl2 : j + N ≤ vd.length) (hus : (List.range N).map (fun x => vs.getD (i + x) dv) = us) (hvs : vd.take j ++ us ++ vd.drop (j + N) = vs') (ga : n0 ≤ b) (hsz : ls.size = maxL) (hf : 1 ≤ R.frames) (hW : (st.map fun v => v.category).sum = W) (hlo : W + (nativeFrameWords "java/lang/System" "arraycopy" 5 + 11) ≤ R.locals) (hd : decode bytes pc = .ok (.invokestatic idx, 3)) (hp : pc + 3 = pc')
    (hr : ∀ h', Keep h h' [b] → Lst Z h' b ty vs' → G h' k n pc' ls st) : G h k n pc ls (.int nn :: .int dp :: .ref b :: .int sp :: .ref a :: st) := by
  obtain ⟨p, e, s, m, args, below, meth, c, hx, hby, hml, hown, hnm, hret, hlk, hZ, hw, rfl⟩ := C
  subst hp hus hvs
  intro T locs X hT hF
  obtain ⟨ka, A'⟩ := A.arv hA fA
  obtain ⟨kb, B'⟩ := B.arv hB fB
  obtain ⟨T', h', L', X', e', F', K', V', s'⟩ := cpA X hx hZ hown (word hw w1) (word hw w2) (word hw w3) (word hw w4) hT A' B' (Or.inl ⟨rfl, hty⟩) hi.1 hj.1 hN.1 (by rw [hi.2, hN.2, hA.2]; exact hl1) (by rw [hj.2, hN.2, hB.2]; exact hl2) (us := (List.range N).map (fun x => vs.getD (i + x) dv)) (by rw [hi.2, hN.2]) (by rw [hj.2, hN.2]; exact hl2) hF ga (g := mkF m pc ls (.int nn :: .int dp :: .ref b :: .int sp :: .ref a :: st)) rfl (by rw [hml]; exact hsz) rfl (hb hby hd) hf (W := W) (by rw [← hW]; show 2 * 0 + _ ≤ _; omega) hlo
  rw [hj.2, hN.2] at V'
  obtain ⟨s₂, o, h1, h2⟩ := hr h' K' (Lst.of_arv V' ⟨hB.1, by rw [hB.2]; simp; omega⟩) T' _ X' e' F'
  exact ⟨s₂, o, s' _ h1, h2⟩
end Laws
end Jvm.GoKit
namespace Jvm.Pilot.@@N@@
open Jvm Jvm.ClassFile Sem Op Lib Jvm.Free Jvm.Stand Jvm.LawKit Jvm.RoadKit Jvm.GoKit Bundle Jvm.Pilot.@@N@@.Jvm.D
def own_cls (b : Int32) : Nat := if b = 10 then 0 else if b = 13 then 1 else 2
def own_st (s c : Nat) : Nat :=
  if s = 0 then (if c = 0 then 0 else if c = 1 then 1 else 2) else if s = 1 then (if c = 0 then 0 else 2) else if s = 2 then (if c = 0 then 3 else 2)
  else if s = 3 then (if c = 0 then 5 else if c = 1 then 4 else 2) else if s = 4 then (if c = 0 then 5 else 2) else 5
def own_fd (s c p f t : Nat) : Nat := if p < f ∨ t ≤ p ∨ s = 5 then s else own_st s c
def own_ri (n : Nat) : Int32 := if n = 0 then -1 else Int32.ofNat n
def own_skip (c : Nat → Nat) (t : Nat) : Nat → Nat → Nat
  | 0, p => p
  | n + 1, p => if p < t ∧ c p = 0 then own_skip c t n (p + 1) else if p + 1 < t ∧ c p = 1 ∧ c (p + 1) = 0 then own_skip c t n (p + 2) else p
def own_main (c : Nat → Nat) (t s : Nat) : Nat → Nat → Nat → Nat
  | 0, _, _ => 0
  | n + 1, q, i => if i < t then (if c i = 0 then (if (i = q ∨ (i = q + 1 ∧ c q = 1)) ∧ s < q then i + 1 else own_main c t s n (i + 1) (i + 1)) else own_main c t s n q (i + 1)) else 0
def own_end (c : Nat → Nat) (f t : Nat) : Nat := own_main c t (own_skip c t 8 f) 8 (own_skip c t 8 f) (own_skip c t 8 f)
theorem own_c0 {b : Int32} : b = 10 ↔ own_cls b = 0 := by
  unfold own_cls
  by_cases h : b = 10
  · simp [h]
  · by_cases h2 : b = 13
    · simp [h2]
    · simp [h, h2]
theorem own_c1 {b : Int32} : b = 13 ↔ own_cls b = 1 := by
  unfold own_cls
  by_cases h : b = 10
  · simp [h]
  · by_cases h2 : b = 13
    · simp [h2]
    · simp [h, h2]
theorem own_cls3 (b : Int32) : own_cls b < 3 := by unfold own_cls; split <;> (try split) <;> decide
theorem own_idx {i : Nat} (h : i < 2147483648) : Idx (Int32.ofNat i) i := Idx.of (by rw [Int32.toInt_ofNat_of_lt (by omega)])
theorem own_lt {i j : Nat} (hi : i < 2147483648) (hj : j < 2147483648) : Int32.ofNat i < Int32.ofNat j ↔ i < j := by
  rw [Int32.lt_iff_toInt_lt, (own_idx hi).int, (own_idx hj).int]; omega
theorem own_eq {i j : Nat} (hi : i < 2147483648) (hj : j < 2147483648) : Int32.ofNat i = Int32.ofNat j ↔ i = j := by
  rw [← Int32.toInt_inj, (own_idx hi).int, (own_idx hj).int]; omega
theorem own_ri0 {n : Nat} (h : n < 100) : own_ri n < 0 ↔ n = 0 := by
  unfold own_ri
  by_cases e : n = 0
  · subst e; exact ⟨fun _ => rfl, fun _ => by decide⟩
  · rw [if_neg e]; exact ⟨fun q => absurd q (own_idx (by omega)).1, fun q => absurd q e⟩
theorem own_st5 (s c : Nat) : own_st s c ≤ 5 := by
  unfold own_st
  repeat' split
  all_goals omega
theorem own_fd5 {s : Nat} (c p f t : Nat) (h : s ≤ 5) : own_fd s c p f t ≤ 5 := by
  unfold own_fd; split
  · exact h
  · exact own_st5 s c
theorem own_at {xs : List Int32} {i : Nat} (hi : i < xs.length) : (xs.map Value.int)[i]? = some (.int (xs.getD i 0)) := by
  rw [List.getElem?_map, List.getD_eq_getElem?_getD, List.getElem?_eq_getElem hi]; rfl
theorem own_from (x : Int32) : ∃ n : Nat, (x &&& 2147483647) % 7 = Int32.ofNat n ∧ n < 7 := by
  have a := c_mask x 2147483647 31 (by decide) (by decide)
  have b := (c_irem (x &&& 2147483647) 7 7 rfl).1 (by omega)
  refine ⟨((x &&& 2147483647) % 7).toInt.toNat, Int32.toInt_inj.mp ?_, by omega⟩
  rw [(own_idx (by omega)).int]; omega
theorem own_sub7 {n : Nat} (h : n < 7) : 7 - Int32.ofNat n = Int32.ofNat (7 - n) := by
  have h' : n = 0 ∨ n = 1 ∨ n = 2 ∨ n = 3 ∨ n = 4 ∨ n = 5 ∨ n = 6 := by omega
  rcases h' with rfl | rfl | rfl | rfl | rfl | rfl | rfl <;> decide
theorem own_nz {n : Nat} (h : n < 7) : Int32.ofNat (7 - n) ≠ 0 := fun q => by
  have := (own_eq (i := 7 - n) (j := 0) (by omega) (by decide)).mp q; omega
theorem own_to (x : Int32) {n : Nat} (h : n < 7) : ∃ m : Nat, (x &&& 2147483647) % Int32.ofNat (7 - n) = Int32.ofNat m ∧ m < 7 - n := by
  have a := c_mask x 2147483647 31 (by decide) (by decide)
  have e := (own_idx (i := 7 - n) (by omega)).int
  have b := (c_iremV (x &&& 2147483647) (Int32.ofNat (7 - n))).1 (by omega) (by omega)
  refine ⟨((x &&& 2147483647) % Int32.ofNat (7 - n)).toInt.toNat, Int32.toInt_inj.mp ?_, by omega⟩
  rw [(own_idx (by omega)).int]; omega
def own_up (s r k : Nat) : Nat := if s = 5 ∧ r = 0 then k + 1 else r
def own_go (c : Nat → Nat) (f t : Nat) : Nat → Nat → Nat → Nat → Nat
  | 0, _, _, r => r
  | n + 1, k, s, r => own_go c f t n (k + 1) (own_fd s (c k) k f t) (own_up (own_fd s (c k) k f t) r k)
def own_pick (a b c d e g : Nat) (p : Nat) : Nat := [a, b, c, d, e, g].getD p 2
theorem own_dec : ∀ f m : Fin 7, f.val + m.val ≤ 6 → ∀ a b c d e g : Fin 3, own_end (own_pick a.val b.val c.val d.val e.val g.val) f.val (f.val + m.val) = own_go (own_pick a.val b.val c.val d.val e.val g.val) f.val (f.val + m.val) 6 0 0 0 := by decide +kernel
theorem own_pk (b0 b1 b2 b3 b4 b5 : Int32) : (fun p => own_cls ([b0, b1, b2, b3, b4, b5].getD p 0)) = own_pick (own_cls b0) (own_cls b1) (own_cls b2) (own_cls b3) (own_cls b4) (own_cls b5) := by
  funext p
  unfold own_pick
  match p with
  | 0 => rfl
  | 1 => rfl
  | 2 => rfl
  | 3 => rfl
  | 4 => rfl
  | 5 => rfl
  | n + 6 => rfl
theorem d1_0 : decode method_2_code 0 = .ok (.lload_n 0, 1) := by decide +kernel
theorem d1_1 : decode method_2_code 1 = .ok (.iconst 2, 1) := by decide +kernel
theorem d1_2 : decode method_2_code 2 = .ok (.iload 4, 2) := by decide +kernel
theorem d1_4 : decode method_2_code 4 = .ok (.imul, 1) := by decide +kernel
theorem d1_5 : decode method_2_code 5 = .ok (.lushr, 1) := by decide +kernel
theorem d1_6 : decode method_2_code 6 = .ok (.ldc2_w 7, 3) := by decide +kernel
theorem d1_9 : decode method_2_code 9 = .ok (.land, 1) := by decide +kernel
theorem d1_10 : decode method_2_code 10 = .ok (.l2i, 1) := by decide +kernel
theorem d1_11 : decode method_2_code 11 = .ok (.istore 5, 2) := by decide +kernel
theorem d1_13 : decode method_2_code 13 = .ok (.iload 5, 2) := by decide +kernel
theorem d1_15 : decode method_2_code 15 = .ok (.ifCond .ne 6, 3) := by decide +kernel
theorem d1_18 : decode method_2_code 18 = .ok (.bipush 10, 2) := by decide +kernel
theorem d1_20 : decode method_2_code 20 = .ok (.ireturn, 1) := by decide +kernel
theorem d1_21 : decode method_2_code 21 = .ok (.iload 5, 2) := by decide +kernel
theorem d1_23 : decode method_2_code 23 = .ok (.iconst 1, 1) := by decide +kernel
theorem d1_24 : decode method_2_code 24 = .ok (.if_icmp .ne 6, 3) := by decide +kernel
theorem d1_27 : decode method_2_code 27 = .ok (.bipush 13, 2) := by decide +kernel
theorem d1_29 : decode method_2_code 29 = .ok (.ireturn, 1) := by decide +kernel
theorem d1_30 : decode method_2_code 30 = .ok (.lload_n 2, 1) := by decide +kernel
theorem d1_31 : decode method_2_code 31 = .ok (.bipush 8, 2) := by decide +kernel
theorem d1_33 : decode method_2_code 33 = .ok (.iload 4, 2) := by decide +kernel
theorem d1_35 : decode method_2_code 35 = .ok (.imul, 1) := by decide +kernel
theorem d1_36 : decode method_2_code 36 = .ok (.lushr, 1) := by decide +kernel
theorem d1_37 : decode method_2_code 37 = .ok (.l2i, 1) := by decide +kernel
theorem d1_38 : decode method_2_code 38 = .ok (.i2b, 1) := by decide +kernel
theorem d1_39 : decode method_2_code 39 = .ok (.ireturn, 1) := by decide +kernel
theorem d2_0 : decode method_4_code 0 = .ok (.iload_n 2, 1) := by decide +kernel
theorem d2_1 : decode method_4_code 1 = .ok (.iload_n 3, 1) := by decide +kernel
theorem d2_2 : decode method_4_code 2 = .ok (.if_icmp .lt 14, 3) := by decide +kernel
theorem d2_5 : decode method_4_code 5 = .ok (.iload_n 2, 1) := by decide +kernel
theorem d2_6 : decode method_4_code 6 = .ok (.iload 4, 2) := by decide +kernel
theorem d2_8 : decode method_4_code 8 = .ok (.if_icmp .ge 8, 3) := by decide +kernel
theorem d2_11 : decode method_4_code 11 = .ok (.iload_n 0, 1) := by decide +kernel
theorem d2_12 : decode method_4_code 12 = .ok (.iconst 5, 1) := by decide +kernel
theorem d2_13 : decode method_4_code 13 = .ok (.if_icmp .ne 5, 3) := by decide +kernel
theorem d2_16 : decode method_4_code 16 = .ok (.iload_n 0, 1) := by decide +kernel
theorem d2_17 : decode method_4_code 17 = .ok (.ireturn, 1) := by decide +kernel
theorem d2_18 : decode method_4_code 18 = .ok (.iload_n 0, 1) := by decide +kernel
theorem d2_19 : decode method_4_code 19 = .ok (.aload_n 1, 1) := by decide +kernel
theorem d2_20 : decode method_4_code 20 = .ok (.iload_n 2, 1) := by decide +kernel
theorem d2_21 : decode method_4_code 21 = .ok (.baload, 1) := by decide +kernel
theorem d2_22 : decode method_4_code 22 = .ok (.invokestatic 9, 3) := by decide +kernel
theorem d2_25 : decode method_4_code 25 = .ok (.ireturn, 1) := by decide +kernel
theorem d3_0 : decode method_3_code 0 = .ok (.iload_n 1, 1) := by decide +kernel
theorem d3_1 : decode method_3_code 1 = .ok (.bipush 10, 2) := by decide +kernel
theorem d3_3 : decode method_3_code 3 = .ok (.if_icmp .ne 7, 3) := by decide +kernel
theorem d3_6 : decode method_3_code 6 = .ok (.iconst 1, 1) := by decide +kernel
theorem d3_7 : decode method_3_code 7 = .ok (.goto 4, 3) := by decide +kernel
theorem d3_10 : decode method_3_code 10 = .ok (.iconst 0, 1) := by decide +kernel
theorem d3_11 : decode method_3_code 11 = .ok (.istore_n 2, 1) := by decide +kernel
theorem d3_12 : decode method_3_code 12 = .ok (.iload_n 1, 1) := by decide +kernel
theorem d3_13 : decode method_3_code 13 = .ok (.bipush 13, 2) := by decide +kernel
theorem d3_15 : decode method_3_code 15 = .ok (.if_icmp .ne 7, 3) := by decide +kernel
theorem d3_18 : decode method_3_code 18 = .ok (.iconst 1, 1) := by decide +kernel
theorem d3_19 : decode method_3_code 19 = .ok (.goto 4, 3) := by decide +kernel
theorem d3_22 : decode method_3_code 22 = .ok (.iconst 0, 1) := by decide +kernel
theorem d3_23 : decode method_3_code 23 = .ok (.istore_n 3, 1) := by decide +kernel
theorem d3_24 : decode method_3_code 24 = .ok (.iload_n 0, 1) := by decide +kernel
theorem d3_25 : decode method_3_code 25 = .ok (.ifCond .ne 21, 3) := by decide +kernel
theorem d3_28 : decode method_3_code 28 = .ok (.iload_n 2, 1) := by decide +kernel
theorem d3_29 : decode method_3_code 29 = .ok (.ifCond .eq 7, 3) := by decide +kernel
theorem d3_32 : decode method_3_code 32 = .ok (.iconst 0, 1) := by decide +kernel
theorem d3_33 : decode method_3_code 33 = .ok (.goto 12, 3) := by decide +kernel
theorem d3_36 : decode method_3_code 36 = .ok (.iload_n 3, 1) := by decide +kernel
theorem d3_37 : decode method_3_code 37 = .ok (.ifCond .eq 7, 3) := by decide +kernel
theorem d3_40 : decode method_3_code 40 = .ok (.iconst 1, 1) := by decide +kernel
theorem d3_41 : decode method_3_code 41 = .ok (.goto 4, 3) := by decide +kernel
theorem d3_44 : decode method_3_code 44 = .ok (.iconst 2, 1) := by decide +kernel
theorem d3_45 : decode method_3_code 45 = .ok (.ireturn, 1) := by decide +kernel
theorem d3_46 : decode method_3_code 46 = .ok (.iload_n 0, 1) := by decide +kernel
theorem d3_47 : decode method_3_code 47 = .ok (.iconst 1, 1) := by decide +kernel
theorem d3_48 : decode method_3_code 48 = .ok (.if_icmp .ne 13, 3) := by decide +kernel
theorem d3_51 : decode method_3_code 51 = .ok (.iload_n 2, 1) := by decide +kernel
theorem d3_52 : decode method_3_code 52 = .ok (.ifCond .eq 7, 3) := by decide +kernel
theorem d3_55 : decode method_3_code 55 = .ok (.iconst 0, 1) := by decide +kernel
theorem d3_56 : decode method_3_code 56 = .ok (.goto 4, 3) := by decide +kernel
theorem d3_59 : decode method_3_code 59 = .ok (.iconst 2, 1) := by decide +kernel
theorem d3_60 : decode method_3_code 60 = .ok (.ireturn, 1) := by decide +kernel
theorem d3_61 : decode method_3_code 61 = .ok (.iload_n 0, 1) := by decide +kernel
theorem d3_62 : decode method_3_code 62 = .ok (.iconst 2, 1) := by decide +kernel
theorem d3_63 : decode method_3_code 63 = .ok (.if_icmp .ne 13, 3) := by decide +kernel
theorem d3_66 : decode method_3_code 66 = .ok (.iload_n 2, 1) := by decide +kernel
theorem d3_67 : decode method_3_code 67 = .ok (.ifCond .eq 7, 3) := by decide +kernel
theorem d3_70 : decode method_3_code 70 = .ok (.iconst 3, 1) := by decide +kernel
theorem d3_71 : decode method_3_code 71 = .ok (.goto 4, 3) := by decide +kernel
theorem d3_74 : decode method_3_code 74 = .ok (.iconst 2, 1) := by decide +kernel
theorem d3_75 : decode method_3_code 75 = .ok (.ireturn, 1) := by decide +kernel
theorem d3_76 : decode method_3_code 76 = .ok (.iload_n 0, 1) := by decide +kernel
theorem d3_77 : decode method_3_code 77 = .ok (.iconst 3, 1) := by decide +kernel
theorem d3_78 : decode method_3_code 78 = .ok (.if_icmp .ne 21, 3) := by decide +kernel
theorem d3_81 : decode method_3_code 81 = .ok (.iload_n 2, 1) := by decide +kernel
theorem d3_82 : decode method_3_code 82 = .ok (.ifCond .eq 7, 3) := by decide +kernel
theorem d3_85 : decode method_3_code 85 = .ok (.iconst 5, 1) := by decide +kernel
theorem d3_86 : decode method_3_code 86 = .ok (.goto 12, 3) := by decide +kernel
theorem d3_89 : decode method_3_code 89 = .ok (.iload_n 3, 1) := by decide +kernel
theorem d3_90 : decode method_3_code 90 = .ok (.ifCond .eq 7, 3) := by decide +kernel
theorem d3_93 : decode method_3_code 93 = .ok (.iconst 4, 1) := by decide +kernel
theorem d3_94 : decode method_3_code 94 = .ok (.goto 4, 3) := by decide +kernel
theorem d3_97 : decode method_3_code 97 = .ok (.iconst 2, 1) := by decide +kernel
theorem d3_98 : decode method_3_code 98 = .ok (.ireturn, 1) := by decide +kernel
theorem d3_99 : decode method_3_code 99 = .ok (.iload_n 0, 1) := by decide +kernel
theorem d3_100 : decode method_3_code 100 = .ok (.iconst 4, 1) := by decide +kernel
theorem d3_101 : decode method_3_code 101 = .ok (.if_icmp .ne 13, 3) := by decide +kernel
theorem d3_104 : decode method_3_code 104 = .ok (.iload_n 2, 1) := by decide +kernel
theorem d3_105 : decode method_3_code 105 = .ok (.ifCond .eq 7, 3) := by decide +kernel
theorem d3_108 : decode method_3_code 108 = .ok (.iconst 5, 1) := by decide +kernel
theorem d3_109 : decode method_3_code 109 = .ok (.goto 4, 3) := by decide +kernel
theorem d3_112 : decode method_3_code 112 = .ok (.iconst 2, 1) := by decide +kernel
theorem d3_113 : decode method_3_code 113 = .ok (.ireturn, 1) := by decide +kernel
theorem d3_114 : decode method_3_code 114 = .ok (.iconst 5, 1) := by decide +kernel
theorem d3_115 : decode method_3_code 115 = .ok (.ireturn, 1) := by decide +kernel
theorem d4_0 : decode prog_238_method_2_code 0 = .ok (.iload_n 1, 1) := by decide +kernel
theorem d4_1 : decode prog_238_method_2_code 1 = .ok (.istore_n 3, 1) := by decide +kernel
theorem d4_2 : decode prog_238_method_2_code 2 = .ok (.iload_n 3, 1) := by decide +kernel
theorem d4_3 : decode prog_238_method_2_code 3 = .ok (.iload_n 2, 1) := by decide +kernel
theorem d4_4 : decode prog_238_method_2_code 4 = .ok (.if_icmp .ge 55, 3) := by decide +kernel
theorem d4_7 : decode prog_238_method_2_code 7 = .ok (.aload_n 0, 1) := by decide +kernel
theorem d4_8 : decode prog_238_method_2_code 8 = .ok (.iload_n 3, 1) := by decide +kernel
theorem d4_9 : decode prog_238_method_2_code 9 = .ok (.baload, 1) := by decide +kernel
theorem d4_10 : decode prog_238_method_2_code 10 = .ok (.bipush 10, 2) := by decide +kernel
theorem d4_12 : decode prog_238_method_2_code 12 = .ok (.if_icmp .eq 28, 3) := by decide +kernel
theorem d4_15 : decode prog_238_method_2_code 15 = .ok (.aload_n 0, 1) := by decide +kernel
theorem d4_16 : decode prog_238_method_2_code 16 = .ok (.iload_n 3, 1) := by decide +kernel
theorem d4_17 : decode prog_238_method_2_code 17 = .ok (.baload, 1) := by decide +kernel
theorem d4_18 : decode prog_238_method_2_code 18 = .ok (.bipush 13, 2) := by decide +kernel
theorem d4_20 : decode prog_238_method_2_code 20 = .ok (.if_icmp .ne 39, 3) := by decide +kernel
theorem d4_23 : decode prog_238_method_2_code 23 = .ok (.iload_n 3, 1) := by decide +kernel
theorem d4_24 : decode prog_238_method_2_code 24 = .ok (.iconst 1, 1) := by decide +kernel
theorem d4_25 : decode prog_238_method_2_code 25 = .ok (.iadd, 1) := by decide +kernel
theorem d4_26 : decode prog_238_method_2_code 26 = .ok (.iload_n 2, 1) := by decide +kernel
theorem d4_27 : decode prog_238_method_2_code 27 = .ok (.if_icmp .ge 32, 3) := by decide +kernel
theorem d4_30 : decode prog_238_method_2_code 30 = .ok (.aload_n 0, 1) := by decide +kernel
theorem d4_31 : decode prog_238_method_2_code 31 = .ok (.iload_n 3, 1) := by decide +kernel
theorem d4_32 : decode prog_238_method_2_code 32 = .ok (.iconst 1, 1) := by decide +kernel
theorem d4_33 : decode prog_238_method_2_code 33 = .ok (.iadd, 1) := by decide +kernel
theorem d4_34 : decode prog_238_method_2_code 34 = .ok (.baload, 1) := by decide +kernel
theorem d4_35 : decode prog_238_method_2_code 35 = .ok (.bipush 10, 2) := by decide +kernel
theorem d4_37 : decode prog_238_method_2_code 37 = .ok (.if_icmp .ne 22, 3) := by decide +kernel
theorem d4_40 : decode prog_238_method_2_code 40 = .ok (.iload_n 3, 1) := by decide +kernel
theorem d4_41 : decode prog_238_method_2_code 41 = .ok (.aload_n 0, 1) := by decide +kernel
theorem d4_42 : decode prog_238_method_2_code 42 = .ok (.iload_n 3, 1) := by decide +kernel
theorem d4_43 : decode prog_238_method_2_code 43 = .ok (.baload, 1) := by decide +kernel
theorem d4_44 : decode prog_238_method_2_code 44 = .ok (.bipush 10, 2) := by decide +kernel
theorem d4_46 : decode prog_238_method_2_code 46 = .ok (.if_icmp .ne 7, 3) := by decide +kernel
theorem d4_49 : decode prog_238_method_2_code 49 = .ok (.iconst 1, 1) := by decide +kernel
theorem d4_50 : decode prog_238_method_2_code 50 = .ok (.goto 4, 3) := by decide +kernel
theorem d4_53 : decode prog_238_method_2_code 53 = .ok (.iconst 2, 1) := by decide +kernel
theorem d4_54 : decode prog_238_method_2_code 54 = .ok (.iadd, 1) := by decide +kernel
theorem d4_55 : decode prog_238_method_2_code 55 = .ok (.istore_n 3, 1) := by decide +kernel
theorem d4_56 : decode prog_238_method_2_code 56 = .ok (.goto (-54), 3) := by decide +kernel
theorem d4_59 : decode prog_238_method_2_code 59 = .ok (.iload_n 3, 1) := by decide +kernel
theorem d4_60 : decode prog_238_method_2_code 60 = .ok (.istore 4, 2) := by decide +kernel
theorem d4_62 : decode prog_238_method_2_code 62 = .ok (.iload_n 3, 1) := by decide +kernel
theorem d4_63 : decode prog_238_method_2_code 63 = .ok (.istore 5, 2) := by decide +kernel
theorem d4_65 : decode prog_238_method_2_code 65 = .ok (.iload 5, 2) := by decide +kernel
theorem d4_67 : decode prog_238_method_2_code 67 = .ok (.iload_n 2, 1) := by decide +kernel
theorem d4_68 : decode prog_238_method_2_code 68 = .ok (.if_icmp .ge 75, 3) := by decide +kernel
theorem d4_71 : decode prog_238_method_2_code 71 = .ok (.aload_n 0, 1) := by decide +kernel
theorem d4_72 : decode prog_238_method_2_code 72 = .ok (.iload 5, 2) := by decide +kernel
theorem d4_74 : decode prog_238_method_2_code 74 = .ok (.baload, 1) := by decide +kernel
theorem d4_75 : decode prog_238_method_2_code 75 = .ok (.bipush 10, 2) := by decide +kernel
theorem d4_77 : decode prog_238_method_2_code 77 = .ok (.if_icmp .eq 6, 3) := by decide +kernel
theorem d4_80 : decode prog_238_method_2_code 80 = .ok (.goto 57, 3) := by decide +kernel
theorem d4_83 : decode prog_238_method_2_code 83 = .ok (.iload 5, 2) := by decide +kernel
theorem d4_85 : decode prog_238_method_2_code 85 = .ok (.iload 4, 2) := by decide +kernel
theorem d4_87 : decode prog_238_method_2_code 87 = .ok (.if_icmp .eq 21, 3) := by decide +kernel
theorem d4_90 : decode prog_238_method_2_code 90 = .ok (.iload 5, 2) := by decide +kernel
theorem d4_92 : decode prog_238_method_2_code 92 = .ok (.iload 4, 2) := by decide +kernel
theorem d4_94 : decode prog_238_method_2_code 94 = .ok (.iconst 1, 1) := by decide +kernel
theorem d4_95 : decode prog_238_method_2_code 95 = .ok (.iadd, 1) := by decide +kernel
theorem d4_96 : decode prog_238_method_2_code 96 = .ok (.if_icmp .ne 16, 3) := by decide +kernel
theorem d4_99 : decode prog_238_method_2_code 99 = .ok (.aload_n 0, 1) := by decide +kernel
theorem d4_100 : decode prog_238_method_2_code 100 = .ok (.iload 4, 2) := by decide +kernel
theorem d4_102 : decode prog_238_method_2_code 102 = .ok (.baload, 1) := by decide +kernel
theorem d4_103 : decode prog_238_method_2_code 103 = .ok (.bipush 13, 2) := by decide +kernel
theorem d4_105 : decode prog_238_method_2_code 105 = .ok (.if_icmp .ne 7, 3) := by decide +kernel
theorem d4_108 : decode prog_238_method_2_code 108 = .ok (.iconst 1, 1) := by decide +kernel
theorem d4_109 : decode prog_238_method_2_code 109 = .ok (.goto 4, 3) := by decide +kernel
theorem d4_112 : decode prog_238_method_2_code 112 = .ok (.iconst 0, 1) := by decide +kernel
theorem d4_113 : decode prog_238_method_2_code 113 = .ok (.istore 6, 2) := by decide +kernel
theorem d4_115 : decode prog_238_method_2_code 115 = .ok (.iload 6, 2) := by decide +kernel
theorem d4_117 : decode prog_238_method_2_code 117 = .ok (.ifCond .eq 14, 3) := by decide +kernel
theorem d4_120 : decode prog_238_method_2_code 120 = .ok (.iload 4, 2) := by decide +kernel
theorem d4_122 : decode prog_238_method_2_code 122 = .ok (.iload_n 3, 1) := by decide +kernel
theorem d4_123 : decode prog_238_method_2_code 123 = .ok (.if_icmp .le 8, 3) := by decide +kernel
theorem d4_126 : decode prog_238_method_2_code 126 = .ok (.iload 5, 2) := by decide +kernel
theorem d4_128 : decode prog_238_method_2_code 128 = .ok (.iconst 1, 1) := by decide +kernel
theorem d4_129 : decode prog_238_method_2_code 129 = .ok (.iadd, 1) := by decide +kernel
theorem d4_130 : decode prog_238_method_2_code 130 = .ok (.ireturn, 1) := by decide +kernel
theorem d4_131 : decode prog_238_method_2_code 131 = .ok (.iload 5, 2) := by decide +kernel
theorem d4_133 : decode prog_238_method_2_code 133 = .ok (.iconst 1, 1) := by decide +kernel
theorem d4_134 : decode prog_238_method_2_code 134 = .ok (.iadd, 1) := by decide +kernel
theorem d4_135 : decode prog_238_method_2_code 135 = .ok (.istore 4, 2) := by decide +kernel
theorem d4_137 : decode prog_238_method_2_code 137 = .ok (.iinc 5 1, 3) := by decide +kernel
theorem d4_140 : decode prog_238_method_2_code 140 = .ok (.goto (-75), 3) := by decide +kernel
theorem d4_143 : decode prog_238_method_2_code 143 = .ok (.iconst (-1), 1) := by decide +kernel
theorem d4_144 : decode prog_238_method_2_code 144 = .ok (.ireturn, 1) := by decide +kernel
theorem pd_0 : parseMethodDescriptor "(IB)I" = some ⟨[.int, .byte], some .int⟩ := by decide +kernel
theorem pd_1 : parseMethodDescriptor "(JJI)B" = some ⟨[.long, .long, .int], some .byte⟩ := by decide +kernel
theorem pd_2 : parseMethodDescriptor "(I[BIII)I" = some ⟨[.int, (.array .byte), .int, .int, .int], some .int⟩ := by decide +kernel
theorem pd_3 : parseMethodDescriptor "([BII)I" = some ⟨[(.array .byte), .int, .int], some .int⟩ := by decide +kernel
set_option maxRecDepth 65536 in
set_option maxHeartbeats 4000000 in
theorem c_pick (l : Launch) (Z : State) (a0 : Array Value) (hw : ∀ d ∈ tables_1, d.before a0 Z = true) (wl : List Jvm.Cond) (n0 : Nat) (h : Heap) (sel raw : Int64) (k : Int32) :
    Ctr l Z (⟨"com/example/slotwright/slotwright/serve/HttpHeadEndPinLaw", "pick", "(JJI)B"⟩ : MethodName) method_2_code 6 (some .byte) ({ frames := 0, cells := 0, slots := 0, locals := 0 } : Room) n0 #[(.long sel), (.long raw), (.int k)] h (fun v h' => (∃ r, v = some (.int r) ∧ nar .byte r = r) ∧ h' = h) wl := by
  refine Ctr.of (ls := #[.val (.long sel), .second, .val (.long raw), .second, .val (.int k), .unset]) (by first | (exact plainFor_of_name (by first | (simp [plainName, overriddenIn]; done) | decide +kernel)) | decide +kernel) hw (fun m => entry_eq m (L1 := [.val (.long sel), .second, .val (.long raw), .second, .val (.int k)]) (k := 1) rfl rfl rfl) (fun G C => ?_)
  refine C.lloadN d1_0 rfl (pc' := 1) rfl ?_
  refine C.iconst d1_1 (v := 2) rfl (pc' := 2) rfl ?_
  refine C.iload d1_2 rfl (pc' := 4) rfl ?_
  refine C.imul d1_4 (pc' := 5) rfl ?_
  refine C.lushr d1_5 (pc' := 6) rfl ?_
  refine C.ldcJ (i := 5) rfl d1_6 (pc' := 9) rfl ?_
  refine C.land d1_9 (pc' := 10) rfl ?_
  refine C.l2i d1_10 (pc' := 11) rfl ?_
  generalize (XT.ushrL sel (2 * k) &&& 3).toInt32 = cc
  refine C.istore d1_11 (ls' := #[.val (.long sel), .second, .val (.long raw), .second, .val (.int k), .val (.int cc)]) rfl (pc' := 13) rfl ?_
  refine C.iload d1_13 rfl (pc' := 15) rfl ?_
  refine C.if_ne d1_15 (by decide) (pc1 := 21) rfl (pc2 := 18) rfl (fun h1 => ?_) (fun h1 => ?_)
  · refine C.iload d1_21 rfl (pc' := 23) rfl ?_
    refine C.iconst d1_23 (v := 1) rfl (pc' := 24) rfl ?_
    refine C.icmp_ne d1_24 (by decide) (pc1 := 30) rfl (pc2 := 27) rfl (fun h2 => ?_) (fun h2 => ?_)
    · refine C.lloadN d1_30 rfl (pc' := 31) rfl ?_
      refine C.bipush d1_31 (v := 8) rfl (pc' := 33) rfl ?_
      refine C.iload d1_33 rfl (pc' := 35) rfl ?_
      refine C.imul d1_35 (pc' := 36) rfl ?_
      refine C.lushr d1_36 (pc' := 37) rfl ?_
      refine C.l2i d1_37 (pc' := 38) rfl ?_
      refine C.i2b d1_38 (pc' := 39) rfl ?_
      exact C.nreturn (b := (((XT.ushrL raw ((8 : Int32) * k))).toInt32).toInt8.toInt32) d1_39 rfl (by simp) (by decide) (by decide) (nar_b _) ⟨⟨_, rfl, nar_b _⟩, rfl⟩
    · refine C.bipush d1_27 (v := 13) rfl (pc' := 29) rfl ?_
      exact C.nreturn (b := (13 : Int32)) d1_29 rfl (by simp) (by decide) (by decide) rfl ⟨⟨_, rfl, rfl⟩, rfl⟩
  · refine C.bipush d1_18 (v := 10) rfl (pc' := 20) rfl ?_
    exact C.nreturn (b := (10 : Int32)) d1_20 rfl (by simp) (by decide) (by decide) rfl ⟨⟨_, rfl, rfl⟩, rfl⟩
set_option maxRecDepth 65536 in
set_option maxHeartbeats 4000000 in
theorem c_step (l : Launch) (Z : State) (a0 : Array Value) (hw : ∀ d ∈ tables_1, d.before a0 Z = true) (wl : List Jvm.Cond) (n0 : Nat) (h : Heap) (s : Nat) (b : Int32) (hs : s ≤ 5) :
    Ctr l Z (⟨"com/example/slotwright/slotwright/serve/HttpHeadEndPinLaw", "step", "(IB)I"⟩ : MethodName) method_3_code 4 (some .int) ({ frames := 0, cells := 0, slots := 0, locals := 0 } : Room) n0 #[(.int (Int32.ofNat s)), (.int b)] h (fun v h' => v = some (.int (Int32.ofNat (own_st s (own_cls b)))) ∧ h' = h) wl := by
  refine Ctr.of (ls := #[.val (.int (Int32.ofNat s)), .val (.int b), .unset, .unset]) (by first | (exact plainFor_of_name (by first | (simp [plainName, overriddenIn]; done) | decide +kernel)) | decide +kernel) hw (fun m => entry_eq m (L1 := [.val (.int (Int32.ofNat s)), .val (.int b)]) (k := 2) rfl rfl rfl) (fun G C => ?_)
  have hs' : s = 0 ∨ s = 1 ∨ s = 2 ∨ s = 3 ∨ s = 4 ∨ s = 5 := by omega
  rcases hs' with rfl | rfl | rfl | rfl | rfl | rfl
  · show G h 0 0 0 #[.val (.int (0 : Int32)), .val (.int b), .unset, .unset] []
    refine C.iloadN d3_0 rfl (pc' := 1) rfl ?_
    refine C.bipush d3_1 (v := 10) rfl (pc' := 3) rfl ?_
    refine C.icmp_ne d3_3 (by decide) (pc1 := 10) rfl (pc2 := 6) rfl (fun h1 => ?_) (fun h1 => ?_)
    · refine C.iconst d3_10 (v := 0) rfl (pc' := 11) rfl ?_
      refine C.istoreN d3_11 (ls' := #[.val (.int (0 : Int32)), .val (.int b), .val (.int (0 : Int32)), .unset]) rfl (pc' := 12) rfl ?_
      refine C.iloadN d3_12 rfl (pc' := 13) rfl ?_
      refine C.bipush d3_13 (v := 13) rfl (pc' := 15) rfl ?_
      refine C.icmp_ne d3_15 (by decide) (pc1 := 22) rfl (pc2 := 18) rfl (fun h2 => ?_) (fun h2 => ?_)
      · refine C.iconst d3_22 (v := 0) rfl (pc' := 23) rfl ?_
        refine C.istoreN d3_23 (ls' := #[.val (.int (0 : Int32)), .val (.int b), .val (.int (0 : Int32)), .val (.int (0 : Int32))]) rfl (pc' := 24) rfl ?_
        refine C.iloadN d3_24 rfl (pc' := 25) rfl ?_
        refine C.if_ne_F d3_25 (by decide) (pc' := 28) rfl ?_
        refine C.iloadN d3_28 rfl (pc' := 29) rfl ?_
        refine C.if_eq_T d3_29 (by decide) (by decide) (pc' := 36) rfl ?_
        refine C.iloadN d3_36 rfl (pc' := 37) rfl ?_
        refine C.if_eq_T d3_37 (by decide) (by decide) (pc' := 44) rfl ?_
        refine C.iconst d3_44 (v := 2) rfl (pc' := 45) rfl ?_
        exact C.ireturn d3_45 rfl (by decide) (by decide) ⟨by rw [show own_cls b = 2 from by simp [own_cls, h1, h2]]; rfl, rfl⟩
      · refine C.iconst d3_18 (v := 1) rfl (pc' := 19) rfl ?_
        refine C.goto d3_19 (by decide) (pc' := 23) rfl ?_
        refine C.istoreN d3_23 (ls' := #[.val (.int (0 : Int32)), .val (.int b), .val (.int (0 : Int32)), .val (.int (1 : Int32))]) rfl (pc' := 24) rfl ?_
        refine C.iloadN d3_24 rfl (pc' := 25) rfl ?_
        refine C.if_ne_F d3_25 (by decide) (pc' := 28) rfl ?_
        refine C.iloadN d3_28 rfl (pc' := 29) rfl ?_
        refine C.if_eq_T d3_29 (by decide) (by decide) (pc' := 36) rfl ?_
        refine C.iloadN d3_36 rfl (pc' := 37) rfl ?_
        refine C.if_eq_F d3_37 (by decide) (pc' := 40) rfl ?_
        refine C.iconst d3_40 (v := 1) rfl (pc' := 41) rfl ?_
        refine C.goto d3_41 (by decide) (pc' := 45) rfl ?_
        exact C.ireturn d3_45 rfl (by decide) (by decide) ⟨by rw [own_c1.mp h2]; rfl, rfl⟩
    · refine C.iconst d3_6 (v := 1) rfl (pc' := 7) rfl ?_
      refine C.goto d3_7 (by decide) (pc' := 11) rfl ?_
      refine C.istoreN d3_11 (ls' := #[.val (.int (0 : Int32)), .val (.int b), .val (.int (1 : Int32)), .unset]) rfl (pc' := 12) rfl ?_
      refine C.iloadN d3_12 rfl (pc' := 13) rfl ?_
      refine C.bipush d3_13 (v := 13) rfl (pc' := 15) rfl ?_
      refine C.icmp_ne_T d3_15 (fun q => absurd (h1.symm.trans q) (by decide)) (by decide) (pc' := 22) rfl ?_
      refine C.iconst d3_22 (v := 0) rfl (pc' := 23) rfl ?_
      refine C.istoreN d3_23 (ls' := #[.val (.int (0 : Int32)), .val (.int b), .val (.int (1 : Int32)), .val (.int (0 : Int32))]) rfl (pc' := 24) rfl ?_
      refine C.iloadN d3_24 rfl (pc' := 25) rfl ?_
      refine C.if_ne_F d3_25 (by decide) (pc' := 28) rfl ?_
      refine C.iloadN d3_28 rfl (pc' := 29) rfl ?_
      refine C.if_eq_F d3_29 (by decide) (pc' := 32) rfl ?_
      refine C.iconst d3_32 (v := 0) rfl (pc' := 33) rfl ?_
      refine C.goto d3_33 (by decide) (pc' := 45) rfl ?_
      exact C.ireturn d3_45 rfl (by decide) (by decide) ⟨by rw [own_c0.mp h1]; rfl, rfl⟩
  · show G h 0 0 0 #[.val (.int (1 : Int32)), .val (.int b), .unset, .unset] []
    refine C.iloadN d3_0 rfl (pc' := 1) rfl ?_
    refine C.bipush d3_1 (v := 10) rfl (pc' := 3) rfl ?_
    refine C.icmp_ne d3_3 (by decide) (pc1 := 10) rfl (pc2 := 6) rfl (fun h1 => ?_) (fun h1 => ?_)
    · refine C.iconst d3_10 (v := 0) rfl (pc' := 11) rfl ?_
      refine C.istoreN d3_11 (ls' := #[.val (.int (1 : Int32)), .val (.int b), .val (.int (0 : Int32)), .unset]) rfl (pc' := 12) rfl ?_
      refine C.iloadN d3_12 rfl (pc' := 13) rfl ?_
      refine C.bipush d3_13 (v := 13) rfl (pc' := 15) rfl ?_
      refine C.icmp_ne d3_15 (by decide) (pc1 := 22) rfl (pc2 := 18) rfl (fun h2 => ?_) (fun h2 => ?_)
      · refine C.iconst d3_22 (v := 0) rfl (pc' := 23) rfl ?_
        refine C.istoreN d3_23 (ls' := #[.val (.int (1 : Int32)), .val (.int b), .val (.int (0 : Int32)), .val (.int (0 : Int32))]) rfl (pc' := 24) rfl ?_
        refine C.iloadN d3_24 rfl (pc' := 25) rfl ?_
        refine C.if_ne_T d3_25 (by decide) (by decide) (pc' := 46) rfl ?_
        refine C.iloadN d3_46 rfl (pc' := 47) rfl ?_
        refine C.iconst d3_47 (v := 1) rfl (pc' := 48) rfl ?_
        refine C.icmp_ne_F d3_48 rfl (pc' := 51) rfl ?_
        refine C.iloadN d3_51 rfl (pc' := 52) rfl ?_
        refine C.if_eq_T d3_52 (by decide) (by decide) (pc' := 59) rfl ?_
        refine C.iconst d3_59 (v := 2) rfl (pc' := 60) rfl ?_
        exact C.ireturn d3_60 rfl (by decide) (by decide) ⟨by rw [show own_cls b = 2 from by simp [own_cls, h1, h2]]; rfl, rfl⟩
      · refine C.iconst d3_18 (v := 1) rfl (pc' := 19) rfl ?_
        refine C.goto d3_19 (by decide) (pc' := 23) rfl ?_
        refine C.istoreN d3_23 (ls' := #[.val (.int (1 : Int32)), .val (.int b), .val (.int (0 : Int32)), .val (.int (1 : Int32))]) rfl (pc' := 24) rfl ?_
        refine C.iloadN d3_24 rfl (pc' := 25) rfl ?_
        refine C.if_ne_T d3_25 (by decide) (by decide) (pc' := 46) rfl ?_
        refine C.iloadN d3_46 rfl (pc' := 47) rfl ?_
        refine C.iconst d3_47 (v := 1) rfl (pc' := 48) rfl ?_
        refine C.icmp_ne_F d3_48 rfl (pc' := 51) rfl ?_
        refine C.iloadN d3_51 rfl (pc' := 52) rfl ?_
        refine C.if_eq_T d3_52 (by decide) (by decide) (pc' := 59) rfl ?_
        refine C.iconst d3_59 (v := 2) rfl (pc' := 60) rfl ?_
        exact C.ireturn d3_60 rfl (by decide) (by decide) ⟨by rw [own_c1.mp h2]; rfl, rfl⟩
    · refine C.iconst d3_6 (v := 1) rfl (pc' := 7) rfl ?_
      refine C.goto d3_7 (by decide) (pc' := 11) rfl ?_
      refine C.istoreN d3_11 (ls' := #[.val (.int (1 : Int32)), .val (.int b), .val (.int (1 : Int32)), .unset]) rfl (pc' := 12) rfl ?_
      refine C.iloadN d3_12 rfl (pc' := 13) rfl ?_
      refine C.bipush d3_13 (v := 13) rfl (pc' := 15) rfl ?_
      refine C.icmp_ne_T d3_15 (fun q => absurd (h1.symm.trans q) (by decide)) (by decide) (pc' := 22) rfl ?_
      refine C.iconst d3_22 (v := 0) rfl (pc' := 23) rfl ?_
      refine C.istoreN d3_23 (ls' := #[.val (.int (1 : Int32)), .val (.int b), .val (.int (1 : Int32)), .val (.int (0 : Int32))]) rfl (pc' := 24) rfl ?_
      refine C.iloadN d3_24 rfl (pc' := 25) rfl ?_
      refine C.if_ne_T d3_25 (by decide) (by decide) (pc' := 46) rfl ?_
      refine C.iloadN d3_46 rfl (pc' := 47) rfl ?_
      refine C.iconst d3_47 (v := 1) rfl (pc' := 48) rfl ?_
      refine C.icmp_ne_F d3_48 rfl (pc' := 51) rfl ?_
      refine C.iloadN d3_51 rfl (pc' := 52) rfl ?_
      refine C.if_eq_F d3_52 (by decide) (pc' := 55) rfl ?_
      refine C.iconst d3_55 (v := 0) rfl (pc' := 56) rfl ?_
      refine C.goto d3_56 (by decide) (pc' := 60) rfl ?_
      exact C.ireturn d3_60 rfl (by decide) (by decide) ⟨by rw [own_c0.mp h1]; rfl, rfl⟩
  · show G h 0 0 0 #[.val (.int (2 : Int32)), .val (.int b), .unset, .unset] []
    refine C.iloadN d3_0 rfl (pc' := 1) rfl ?_
    refine C.bipush d3_1 (v := 10) rfl (pc' := 3) rfl ?_
    refine C.icmp_ne d3_3 (by decide) (pc1 := 10) rfl (pc2 := 6) rfl (fun h1 => ?_) (fun h1 => ?_)
    · refine C.iconst d3_10 (v := 0) rfl (pc' := 11) rfl ?_
      refine C.istoreN d3_11 (ls' := #[.val (.int (2 : Int32)), .val (.int b), .val (.int (0 : Int32)), .unset]) rfl (pc' := 12) rfl ?_
      refine C.iloadN d3_12 rfl (pc' := 13) rfl ?_
      refine C.bipush d3_13 (v := 13) rfl (pc' := 15) rfl ?_
      refine C.icmp_ne d3_15 (by decide) (pc1 := 22) rfl (pc2 := 18) rfl (fun h2 => ?_) (fun h2 => ?_)
      · refine C.iconst d3_22 (v := 0) rfl (pc' := 23) rfl ?_
        refine C.istoreN d3_23 (ls' := #[.val (.int (2 : Int32)), .val (.int b), .val (.int (0 : Int32)), .val (.int (0 : Int32))]) rfl (pc' := 24) rfl ?_
        refine C.iloadN d3_24 rfl (pc' := 25) rfl ?_
        refine C.if_ne_T d3_25 (by decide) (by decide) (pc' := 46) rfl ?_
        refine C.iloadN d3_46 rfl (pc' := 47) rfl ?_
        refine C.iconst d3_47 (v := 1) rfl (pc' := 48) rfl ?_
        refine C.icmp_ne_T d3_48 (by decide) (by decide) (pc' := 61) rfl ?_
        refine C.iloadN d3_61 rfl (pc' := 62) rfl ?_
        refine C.iconst d3_62 (v := 2) rfl (pc' := 63) rfl ?_
        refine C.icmp_ne_F d3_63 rfl (pc' := 66) rfl ?_
        refine C.iloadN d3_66 rfl (pc' := 67) rfl ?_
        refine C.if_eq_T d3_67 (by decide) (by decide) (pc' := 74) rfl ?_
        refine C.iconst d3_74 (v := 2) rfl (pc' := 75) rfl ?_
        exact C.ireturn d3_75 rfl (by decide) (by decide) ⟨by rw [show own_cls b = 2 from by simp [own_cls, h1, h2]]; rfl, rfl⟩
      · refine C.iconst d3_18 (v := 1) rfl (pc' := 19) rfl ?_
        refine C.goto d3_19 (by decide) (pc' := 23) rfl ?_
        refine C.istoreN d3_23 (ls' := #[.val (.int (2 : Int32)), .val (.int b), .val (.int (0 : Int32)), .val (.int (1 : Int32))]) rfl (pc' := 24) rfl ?_
        refine C.iloadN d3_24 rfl (pc' := 25) rfl ?_
        refine C.if_ne_T d3_25 (by decide) (by decide) (pc' := 46) rfl ?_
        refine C.iloadN d3_46 rfl (pc' := 47) rfl ?_
        refine C.iconst d3_47 (v := 1) rfl (pc' := 48) rfl ?_
        refine C.icmp_ne_T d3_48 (by decide) (by decide) (pc' := 61) rfl ?_
        refine C.iloadN d3_61 rfl (pc' := 62) rfl ?_
        refine C.iconst d3_62 (v := 2) rfl (pc' := 63) rfl ?_
        refine C.icmp_ne_F d3_63 rfl (pc' := 66) rfl ?_
        refine C.iloadN d3_66 rfl (pc' := 67) rfl ?_
        refine C.if_eq_T d3_67 (by decide) (by decide) (pc' := 74) rfl ?_
        refine C.iconst d3_74 (v := 2) rfl (pc' := 75) rfl ?_
        exact C.ireturn d3_75 rfl (by decide) (by decide) ⟨by rw [own_c1.mp h2]; rfl, rfl⟩
    · refine C.iconst d3_6 (v := 1) rfl (pc' := 7) rfl ?_
      refine C.goto d3_7 (by decide) (pc' := 11) rfl ?_
      refine C.istoreN d3_11 (ls' := #[.val (.int (2 : Int32)), .val (.int b), .val (.int (1 : Int32)), .unset]) rfl (pc' := 12) rfl ?_
      refine C.iloadN d3_12 rfl (pc' := 13) rfl ?_
      refine C.bipush d3_13 (v := 13) rfl (pc' := 15) rfl ?_
      refine C.icmp_ne_T d3_15 (fun q => absurd (h1.symm.trans q) (by decide)) (by decide) (pc' := 22) rfl ?_
      refine C.iconst d3_22 (v := 0) rfl (pc' := 23) rfl ?_
      refine C.istoreN d3_23 (ls' := #[.val (.int (2 : Int32)), .val (.int b), .val (.int (1 : Int32)), .val (.int (0 : Int32))]) rfl (pc' := 24) rfl ?_
      refine C.iloadN d3_24 rfl (pc' := 25) rfl ?_
      refine C.if_ne_T d3_25 (by decide) (by decide) (pc' := 46) rfl ?_
      refine C.iloadN d3_46 rfl (pc' := 47) rfl ?_
      refine C.iconst d3_47 (v := 1) rfl (pc' := 48) rfl ?_
      refine C.icmp_ne_T d3_48 (by decide) (by decide) (pc' := 61) rfl ?_
      refine C.iloadN d3_61 rfl (pc' := 62) rfl ?_
      refine C.iconst d3_62 (v := 2) rfl (pc' := 63) rfl ?_
      refine C.icmp_ne_F d3_63 rfl (pc' := 66) rfl ?_
      refine C.iloadN d3_66 rfl (pc' := 67) rfl ?_
      refine C.if_eq_F d3_67 (by decide) (pc' := 70) rfl ?_
      refine C.iconst d3_70 (v := 3) rfl (pc' := 71) rfl ?_
      refine C.goto d3_71 (by decide) (pc' := 75) rfl ?_
      exact C.ireturn d3_75 rfl (by decide) (by decide) ⟨by rw [own_c0.mp h1]; rfl, rfl⟩
  · show G h 0 0 0 #[.val (.int (3 : Int32)), .val (.int b), .unset, .unset] []
    refine C.iloadN d3_0 rfl (pc' := 1) rfl ?_
    refine C.bipush d3_1 (v := 10) rfl (pc' := 3) rfl ?_
    refine C.icmp_ne d3_3 (by decide) (pc1 := 10) rfl (pc2 := 6) rfl (fun h1 => ?_) (fun h1 => ?_)
    · refine C.iconst d3_10 (v := 0) rfl (pc' := 11) rfl ?_
      refine C.istoreN d3_11 (ls' := #[.val (.int (3 : Int32)), .val (.int b), .val (.int (0 : Int32)), .unset]) rfl (pc' := 12) rfl ?_
      refine C.iloadN d3_12 rfl (pc' := 13) rfl ?_
      refine C.bipush d3_13 (v := 13) rfl (pc' := 15) rfl ?_
      refine C.icmp_ne d3_15 (by decide) (pc1 := 22) rfl (pc2 := 18) rfl (fun h2 => ?_) (fun h2 => ?_)
      · refine C.iconst d3_22 (v := 0) rfl (pc' := 23) rfl ?_
        refine C.istoreN d3_23 (ls' := #[.val (.int (3 : Int32)), .val (.int b), .val (.int (0 : Int32)), .val (.int (0 : Int32))]) rfl (pc' := 24) rfl ?_
        refine C.iloadN d3_24 rfl (pc' := 25) rfl ?_
        refine C.if_ne_T d3_25 (by decide) (by decide) (pc' := 46) rfl ?_
        refine C.iloadN d3_46 rfl (pc' := 47) rfl ?_
        refine C.iconst d3_47 (v := 1) rfl (pc' := 48) rfl ?_
        refine C.icmp_ne_T d3_48 (by decide) (by decide) (pc' := 61) rfl ?_
        refine C.iloadN d3_61 rfl (pc' := 62) rfl ?_
        refine C.iconst d3_62 (v := 2) rfl (pc' := 63) rfl ?_
        refine C.icmp_ne_T d3_63 (by decide) (by decide) (pc' := 76) rfl ?_
        refine C.iloadN d3_76 rfl (pc' := 77) rfl ?_
        refine C.iconst d3_77 (v := 3) rfl (pc' := 78) rfl ?_
        refine C.icmp_ne_F d3_78 rfl (pc' := 81) rfl ?_
        refine C.iloadN d3_81 rfl (pc' := 82) rfl ?_
        refine C.if_eq_T d3_82 (by decide) (by decide) (pc' := 89) rfl ?_
        refine C.iloadN d3_89 rfl (pc' := 90) rfl ?_
        refine C.if_eq_T d3_90 (by decide) (by decide) (pc' := 97) rfl ?_
        refine C.iconst d3_97 (v := 2) rfl (pc' := 98) rfl ?_
        exact C.ireturn d3_98 rfl (by decide) (by decide) ⟨by rw [show own_cls b = 2 from by simp [own_cls, h1, h2]]; rfl, rfl⟩
      · refine C.iconst d3_18 (v := 1) rfl (pc' := 19) rfl ?_
        refine C.goto d3_19 (by decide) (pc' := 23) rfl ?_
        refine C.istoreN d3_23 (ls' := #[.val (.int (3 : Int32)), .val (.int b), .val (.int (0 : Int32)), .val (.int (1 : Int32))]) rfl (pc' := 24) rfl ?_
        refine C.iloadN d3_24 rfl (pc' := 25) rfl ?_
        refine C.if_ne_T d3_25 (by decide) (by decide) (pc' := 46) rfl ?_
        refine C.iloadN d3_46 rfl (pc' := 47) rfl ?_
        refine C.iconst d3_47 (v := 1) rfl (pc' := 48) rfl ?_
        refine C.icmp_ne_T d3_48 (by decide) (by decide) (pc' := 61) rfl ?_
        refine C.iloadN d3_61 rfl (pc' := 62) rfl ?_
        refine C.iconst d3_62 (v := 2) rfl (pc' := 63) rfl ?_
        refine C.icmp_ne_T d3_63 (by decide) (by decide) (pc' := 76) rfl ?_
        refine C.iloadN d3_76 rfl (pc' := 77) rfl ?_
        refine C.iconst d3_77 (v := 3) rfl (pc' := 78) rfl ?_
        refine C.icmp_ne_F d3_78 rfl (pc' := 81) rfl ?_
        refine C.iloadN d3_81 rfl (pc' := 82) rfl ?_
        refine C.if_eq_T d3_82 (by decide) (by decide) (pc' := 89) rfl ?_
        refine C.iloadN d3_89 rfl (pc' := 90) rfl ?_
        refine C.if_eq_F d3_90 (by decide) (pc' := 93) rfl ?_
        refine C.iconst d3_93 (v := 4) rfl (pc' := 94) rfl ?_
        refine C.goto d3_94 (by decide) (pc' := 98) rfl ?_
        exact C.ireturn d3_98 rfl (by decide) (by decide) ⟨by rw [own_c1.mp h2]; rfl, rfl⟩
    · refine C.iconst d3_6 (v := 1) rfl (pc' := 7) rfl ?_
      refine C.goto d3_7 (by decide) (pc' := 11) rfl ?_
      refine C.istoreN d3_11 (ls' := #[.val (.int (3 : Int32)), .val (.int b), .val (.int (1 : Int32)), .unset]) rfl (pc' := 12) rfl ?_
      refine C.iloadN d3_12 rfl (pc' := 13) rfl ?_
      refine C.bipush d3_13 (v := 13) rfl (pc' := 15) rfl ?_
      refine C.icmp_ne_T d3_15 (fun q => absurd (h1.symm.trans q) (by decide)) (by decide) (pc' := 22) rfl ?_
      refine C.iconst d3_22 (v := 0) rfl (pc' := 23) rfl ?_
      refine C.istoreN d3_23 (ls' := #[.val (.int (3 : Int32)), .val (.int b), .val (.int (1 : Int32)), .val (.int (0 : Int32))]) rfl (pc' := 24) rfl ?_
      refine C.iloadN d3_24 rfl (pc' := 25) rfl ?_
      refine C.if_ne_T d3_25 (by decide) (by decide) (pc' := 46) rfl ?_
      refine C.iloadN d3_46 rfl (pc' := 47) rfl ?_
      refine C.iconst d3_47 (v := 1) rfl (pc' := 48) rfl ?_
      refine C.icmp_ne_T d3_48 (by decide) (by decide) (pc' := 61) rfl ?_
      refine C.iloadN d3_61 rfl (pc' := 62) rfl ?_
      refine C.iconst d3_62 (v := 2) rfl (pc' := 63) rfl ?_
      refine C.icmp_ne_T d3_63 (by decide) (by decide) (pc' := 76) rfl ?_
      refine C.iloadN d3_76 rfl (pc' := 77) rfl ?_
      refine C.iconst d3_77 (v := 3) rfl (pc' := 78) rfl ?_
      refine C.icmp_ne_F d3_78 rfl (pc' := 81) rfl ?_
      refine C.iloadN d3_81 rfl (pc' := 82) rfl ?_
      refine C.if_eq_F d3_82 (by decide) (pc' := 85) rfl ?_
      refine C.iconst d3_85 (v := 5) rfl (pc' := 86) rfl ?_
      refine C.goto d3_86 (by decide) (pc' := 98) rfl ?_
      exact C.ireturn d3_98 rfl (by decide) (by decide) ⟨by rw [own_c0.mp h1]; rfl, rfl⟩
  · show G h 0 0 0 #[.val (.int (4 : Int32)), .val (.int b), .unset, .unset] []
    refine C.iloadN d3_0 rfl (pc' := 1) rfl ?_
    refine C.bipush d3_1 (v := 10) rfl (pc' := 3) rfl ?_
    refine C.icmp_ne d3_3 (by decide) (pc1 := 10) rfl (pc2 := 6) rfl (fun h1 => ?_) (fun h1 => ?_)
    · refine C.iconst d3_10 (v := 0) rfl (pc' := 11) rfl ?_
      refine C.istoreN d3_11 (ls' := #[.val (.int (4 : Int32)), .val (.int b), .val (.int (0 : Int32)), .unset]) rfl (pc' := 12) rfl ?_
      refine C.iloadN d3_12 rfl (pc' := 13) rfl ?_
      refine C.bipush d3_13 (v := 13) rfl (pc' := 15) rfl ?_
      refine C.icmp_ne d3_15 (by decide) (pc1 := 22) rfl (pc2 := 18) rfl (fun h2 => ?_) (fun h2 => ?_)
      · refine C.iconst d3_22 (v := 0) rfl (pc' := 23) rfl ?_
        refine C.istoreN d3_23 (ls' := #[.val (.int (4 : Int32)), .val (.int b), .val (.int (0 : Int32)), .val (.int (0 : Int32))]) rfl (pc' := 24) rfl ?_
        refine C.iloadN d3_24 rfl (pc' := 25) rfl ?_
        refine C.if_ne_T d3_25 (by decide) (by decide) (pc' := 46) rfl ?_
        refine C.iloadN d3_46 rfl (pc' := 47) rfl ?_
        refine C.iconst d3_47 (v := 1) rfl (pc' := 48) rfl ?_
        refine C.icmp_ne_T d3_48 (by decide) (by decide) (pc' := 61) rfl ?_
        refine C.iloadN d3_61 rfl (pc' := 62) rfl ?_
        refine C.iconst d3_62 (v := 2) rfl (pc' := 63) rfl ?_
        refine C.icmp_ne_T d3_63 (by decide) (by decide) (pc' := 76) rfl ?_
        refine C.iloadN d3_76 rfl (pc' := 77) rfl ?_
        refine C.iconst d3_77 (v := 3) rfl (pc' := 78) rfl ?_
        refine C.icmp_ne_T d3_78 (by decide) (by decide) (pc' := 99) rfl ?_
        refine C.iloadN d3_99 rfl (pc' := 100) rfl ?_
        refine C.iconst d3_100 (v := 4) rfl (pc' := 101) rfl ?_
        refine C.icmp_ne_F d3_101 rfl (pc' := 104) rfl ?_
        refine C.iloadN d3_104 rfl (pc' := 105) rfl ?_
        refine C.if_eq_T d3_105 (by decide) (by decide) (pc' := 112) rfl ?_
        refine C.iconst d3_112 (v := 2) rfl (pc' := 113) rfl ?_
        exact C.ireturn d3_113 rfl (by decide) (by decide) ⟨by rw [show own_cls b = 2 from by simp [own_cls, h1, h2]]; rfl, rfl⟩
      · refine C.iconst d3_18 (v := 1) rfl (pc' := 19) rfl ?_
        refine C.goto d3_19 (by decide) (pc' := 23) rfl ?_
        refine C.istoreN d3_23 (ls' := #[.val (.int (4 : Int32)), .val (.int b), .val (.int (0 : Int32)), .val (.int (1 : Int32))]) rfl (pc' := 24) rfl ?_
        refine C.iloadN d3_24 rfl (pc' := 25) rfl ?_
        refine C.if_ne_T d3_25 (by decide) (by decide) (pc' := 46) rfl ?_
        refine C.iloadN d3_46 rfl (pc' := 47) rfl ?_
        refine C.iconst d3_47 (v := 1) rfl (pc' := 48) rfl ?_
        refine C.icmp_ne_T d3_48 (by decide) (by decide) (pc' := 61) rfl ?_
        refine C.iloadN d3_61 rfl (pc' := 62) rfl ?_
        refine C.iconst d3_62 (v := 2) rfl (pc' := 63) rfl ?_
        refine C.icmp_ne_T d3_63 (by decide) (by decide) (pc' := 76) rfl ?_
        refine C.iloadN d3_76 rfl (pc' := 77) rfl ?_
        refine C.iconst d3_77 (v := 3) rfl (pc' := 78) rfl ?_
        refine C.icmp_ne_T d3_78 (by decide) (by decide) (pc' := 99) rfl ?_
        refine C.iloadN d3_99 rfl (pc' := 100) rfl ?_
        refine C.iconst d3_100 (v := 4) rfl (pc' := 101) rfl ?_
        refine C.icmp_ne_F d3_101 rfl (pc' := 104) rfl ?_
        refine C.iloadN d3_104 rfl (pc' := 105) rfl ?_
        refine C.if_eq_T d3_105 (by decide) (by decide) (pc' := 112) rfl ?_
        refine C.iconst d3_112 (v := 2) rfl (pc' := 113) rfl ?_
        exact C.ireturn d3_113 rfl (by decide) (by decide) ⟨by rw [own_c1.mp h2]; rfl, rfl⟩
    · refine C.iconst d3_6 (v := 1) rfl (pc' := 7) rfl ?_
      refine C.goto d3_7 (by decide) (pc' := 11) rfl ?_
      refine C.istoreN d3_11 (ls' := #[.val (.int (4 : Int32)), .val (.int b), .val (.int (1 : Int32)), .unset]) rfl (pc' := 12) rfl ?_
      refine C.iloadN d3_12 rfl (pc' := 13) rfl ?_
      refine C.bipush d3_13 (v := 13) rfl (pc' := 15) rfl ?_
      refine C.icmp_ne_T d3_15 (fun q => absurd (h1.symm.trans q) (by decide)) (by decide) (pc' := 22) rfl ?_
      refine C.iconst d3_22 (v := 0) rfl (pc' := 23) rfl ?_
      refine C.istoreN d3_23 (ls' := #[.val (.int (4 : Int32)), .val (.int b), .val (.int (1 : Int32)), .val (.int (0 : Int32))]) rfl (pc' := 24) rfl ?_
      refine C.iloadN d3_24 rfl (pc' := 25) rfl ?_
      refine C.if_ne_T d3_25 (by decide) (by decide) (pc' := 46) rfl ?_
      refine C.iloadN d3_46 rfl (pc' := 47) rfl ?_
      refine C.iconst d3_47 (v := 1) rfl (pc' := 48) rfl ?_
      refine C.icmp_ne_T d3_48 (by decide) (by decide) (pc' := 61) rfl ?_
      refine C.iloadN d3_61 rfl (pc' := 62) rfl ?_
      refine C.iconst d3_62 (v := 2) rfl (pc' := 63) rfl ?_
      refine C.icmp_ne_T d3_63 (by decide) (by decide) (pc' := 76) rfl ?_
      refine C.iloadN d3_76 rfl (pc' := 77) rfl ?_
      refine C.iconst d3_77 (v := 3) rfl (pc' := 78) rfl ?_
      refine C.icmp_ne_T d3_78 (by decide) (by decide) (pc' := 99) rfl ?_
      refine C.iloadN d3_99 rfl (pc' := 100) rfl ?_
      refine C.iconst d3_100 (v := 4) rfl (pc' := 101) rfl ?_
      refine C.icmp_ne_F d3_101 rfl (pc' := 104) rfl ?_
      refine C.iloadN d3_104 rfl (pc' := 105) rfl ?_
      refine C.if_eq_F d3_105 (by decide) (pc' := 108) rfl ?_
      refine C.iconst d3_108 (v := 5) rfl (pc' := 109) rfl ?_
      refine C.goto d3_109 (by decide) (pc' := 113) rfl ?_
      exact C.ireturn d3_113 rfl (by decide) (by decide) ⟨by rw [own_c0.mp h1]; rfl, rfl⟩
  · show G h 0 0 0 #[.val (.int (5 : Int32)), .val (.int b), .unset, .unset] []
    refine C.iloadN d3_0 rfl (pc' := 1) rfl ?_
    refine C.bipush d3_1 (v := 10) rfl (pc' := 3) rfl ?_
    refine C.icmp_ne d3_3 (by decide) (pc1 := 10) rfl (pc2 := 6) rfl (fun h1 => ?_) (fun h1 => ?_)
    · refine C.iconst d3_10 (v := 0) rfl (pc' := 11) rfl ?_
      refine C.istoreN d3_11 (ls' := #[.val (.int (5 : Int32)), .val (.int b), .val (.int (0 : Int32)), .unset]) rfl (pc' := 12) rfl ?_
      refine C.iloadN d3_12 rfl (pc' := 13) rfl ?_
      refine C.bipush d3_13 (v := 13) rfl (pc' := 15) rfl ?_
      refine C.icmp_ne d3_15 (by decide) (pc1 := 22) rfl (pc2 := 18) rfl (fun h2 => ?_) (fun h2 => ?_)
      · refine C.iconst d3_22 (v := 0) rfl (pc' := 23) rfl ?_
        refine C.istoreN d3_23 (ls' := #[.val (.int (5 : Int32)), .val (.int b), .val (.int (0 : Int32)), .val (.int (0 : Int32))]) rfl (pc' := 24) rfl ?_
        refine C.iloadN d3_24 rfl (pc' := 25) rfl ?_
        refine C.if_ne_T d3_25 (by decide) (by decide) (pc' := 46) rfl ?_
        refine C.iloadN d3_46 rfl (pc' := 47) rfl ?_
        refine C.iconst d3_47 (v := 1) rfl (pc' := 48) rfl ?_
        refine C.icmp_ne_T d3_48 (by decide) (by decide) (pc' := 61) rfl ?_
        refine C.iloadN d3_61 rfl (pc' := 62) rfl ?_
        refine C.iconst d3_62 (v := 2) rfl (pc' := 63) rfl ?_
        refine C.icmp_ne_T d3_63 (by decide) (by decide) (pc' := 76) rfl ?_
        refine C.iloadN d3_76 rfl (pc' := 77) rfl ?_
        refine C.iconst d3_77 (v := 3) rfl (pc' := 78) rfl ?_
        refine C.icmp_ne_T d3_78 (by decide) (by decide) (pc' := 99) rfl ?_
        refine C.iloadN d3_99 rfl (pc' := 100) rfl ?_
        refine C.iconst d3_100 (v := 4) rfl (pc' := 101) rfl ?_
        refine C.icmp_ne_T d3_101 (by decide) (by decide) (pc' := 114) rfl ?_
        refine C.iconst d3_114 (v := 5) rfl (pc' := 115) rfl ?_
        exact C.ireturn d3_115 rfl (by decide) (by decide) ⟨by rw [show own_cls b = 2 from by simp [own_cls, h1, h2]]; rfl, rfl⟩
      · refine C.iconst d3_18 (v := 1) rfl (pc' := 19) rfl ?_
        refine C.goto d3_19 (by decide) (pc' := 23) rfl ?_
        refine C.istoreN d3_23 (ls' := #[.val (.int (5 : Int32)), .val (.int b), .val (.int (0 : Int32)), .val (.int (1 : Int32))]) rfl (pc' := 24) rfl ?_
        refine C.iloadN d3_24 rfl (pc' := 25) rfl ?_
        refine C.if_ne_T d3_25 (by decide) (by decide) (pc' := 46) rfl ?_
        refine C.iloadN d3_46 rfl (pc' := 47) rfl ?_
        refine C.iconst d3_47 (v := 1) rfl (pc' := 48) rfl ?_
        refine C.icmp_ne_T d3_48 (by decide) (by decide) (pc' := 61) rfl ?_
        refine C.iloadN d3_61 rfl (pc' := 62) rfl ?_
        refine C.iconst d3_62 (v := 2) rfl (pc' := 63) rfl ?_
        refine C.icmp_ne_T d3_63 (by decide) (by decide) (pc' := 76) rfl ?_
        refine C.iloadN d3_76 rfl (pc' := 77) rfl ?_
        refine C.iconst d3_77 (v := 3) rfl (pc' := 78) rfl ?_
        refine C.icmp_ne_T d3_78 (by decide) (by decide) (pc' := 99) rfl ?_
        refine C.iloadN d3_99 rfl (pc' := 100) rfl ?_
        refine C.iconst d3_100 (v := 4) rfl (pc' := 101) rfl ?_
        refine C.icmp_ne_T d3_101 (by decide) (by decide) (pc' := 114) rfl ?_
        refine C.iconst d3_114 (v := 5) rfl (pc' := 115) rfl ?_
        exact C.ireturn d3_115 rfl (by decide) (by decide) ⟨by rw [own_c1.mp h2]; rfl, rfl⟩
    · refine C.iconst d3_6 (v := 1) rfl (pc' := 7) rfl ?_
      refine C.goto d3_7 (by decide) (pc' := 11) rfl ?_
      refine C.istoreN d3_11 (ls' := #[.val (.int (5 : Int32)), .val (.int b), .val (.int (1 : Int32)), .unset]) rfl (pc' := 12) rfl ?_
      refine C.iloadN d3_12 rfl (pc' := 13) rfl ?_
      refine C.bipush d3_13 (v := 13) rfl (pc' := 15) rfl ?_
      refine C.icmp_ne_T d3_15 (fun q => absurd (h1.symm.trans q) (by decide)) (by decide) (pc' := 22) rfl ?_
      refine C.iconst d3_22 (v := 0) rfl (pc' := 23) rfl ?_
      refine C.istoreN d3_23 (ls' := #[.val (.int (5 : Int32)), .val (.int b), .val (.int (1 : Int32)), .val (.int (0 : Int32))]) rfl (pc' := 24) rfl ?_
      refine C.iloadN d3_24 rfl (pc' := 25) rfl ?_
      refine C.if_ne_T d3_25 (by decide) (by decide) (pc' := 46) rfl ?_
      refine C.iloadN d3_46 rfl (pc' := 47) rfl ?_
      refine C.iconst d3_47 (v := 1) rfl (pc' := 48) rfl ?_
      refine C.icmp_ne_T d3_48 (by decide) (by decide) (pc' := 61) rfl ?_
      refine C.iloadN d3_61 rfl (pc' := 62) rfl ?_
      refine C.iconst d3_62 (v := 2) rfl (pc' := 63) rfl ?_
      refine C.icmp_ne_T d3_63 (by decide) (by decide) (pc' := 76) rfl ?_
      refine C.iloadN d3_76 rfl (pc' := 77) rfl ?_
      refine C.iconst d3_77 (v := 3) rfl (pc' := 78) rfl ?_
      refine C.icmp_ne_T d3_78 (by decide) (by decide) (pc' := 99) rfl ?_
      refine C.iloadN d3_99 rfl (pc' := 100) rfl ?_
      refine C.iconst d3_100 (v := 4) rfl (pc' := 101) rfl ?_
      refine C.icmp_ne_T d3_101 (by decide) (by decide) (pc' := 114) rfl ?_
      refine C.iconst d3_114 (v := 5) rfl (pc' := 115) rfl ?_
      exact C.ireturn d3_115 rfl (by decide) (by decide) ⟨by rw [own_c0.mp h1]; rfl, rfl⟩
set_option maxRecDepth 65536 in
set_option maxHeartbeats 4000000 in
theorem c_feed (l : Launch) (Z : State) (a0 : Array Value) (hw : ∀ d ∈ tables_1, d.before a0 Z = true) (wl : List Jvm.Cond) (n0 : Nat) (h : Heap) (a : Addr) (vs : List Value) (s p f t : Nat) (x : Int32) (V_a : Lst Z h a .byte vs) (hs : s ≤ 5) (hp : p < 6) (hf : f < 7) (ht : t < 7) (hx : vs[p]? = some (.int x)) :
    Ctr l Z (⟨"com/example/slotwright/slotwright/serve/HttpHeadEndPinLaw", "feed", "(I[BIII)I"⟩ : MethodName) method_4_code 5 (some .int) ({ frames := 1, cells := 0, slots := 0, locals := 15 } : Room) n0 #[(.int (Int32.ofNat s)), (.ref a), (.int (Int32.ofNat p)), (.int (Int32.ofNat f)), (.int (Int32.ofNat t))] h (fun v h' => v = some (.int (Int32.ofNat (own_fd s (own_cls x) p f t))) ∧ h' = h) wl := by
  refine Ctr.of (ls := #[.val (.int (Int32.ofNat s)), .val (.ref a), .val (.int (Int32.ofNat p)), .val (.int (Int32.ofNat f)), .val (.int (Int32.ofNat t))]) (by first | (exact plainFor_of_name (by first | (simp [plainName, overriddenIn]; done) | decide +kernel)) | decide +kernel) hw (fun m => entry_eq m (L1 := [.val (.int (Int32.ofNat s)), .val (.ref a), .val (.int (Int32.ofNat p)), .val (.int (Int32.ofNat f)), .val (.int (Int32.ofNat t))]) (k := 0) rfl rfl rfl) (fun G C => ?_)
  refine C.iloadN d2_0 rfl (pc' := 1) rfl ?_
  refine C.iloadN d2_1 rfl (pc' := 2) rfl ?_
  refine C.icmp_lt d2_2 (by decide) (pc1 := 16) rfl (pc2 := 5) rfl (fun h1 => ?_) (fun h1 => ?_)
  · refine C.iloadN d2_16 rfl (pc' := 17) rfl ?_
    exact C.ireturn d2_17 rfl (by decide) (by decide) ⟨by unfold own_fd; rw [if_pos (Or.inl ((own_lt (by omega) (by omega)).mp h1))], rfl⟩
  · refine C.iloadN d2_5 rfl (pc' := 6) rfl ?_
    refine C.iload d2_6 rfl (pc' := 8) rfl ?_
    refine C.icmp_ge d2_8 (by decide) (pc1 := 16) rfl (pc2 := 11) rfl (fun h2 => ?_) (fun h2 => ?_)
    · refine C.iloadN d2_16 rfl (pc' := 17) rfl ?_
      exact C.ireturn d2_17 rfl (by decide) (by decide) ⟨by unfold own_fd; rw [if_pos (Or.inr (Or.inl (Nat.not_lt.mp fun q => h2 ((own_lt (by omega) (by omega)).mpr q))))], rfl⟩
    · refine C.iloadN d2_11 rfl (pc' := 12) rfl ?_
      refine C.iconst d2_12 (v := 5) rfl (pc' := 13) rfl ?_
      refine C.icmp_ne d2_13 (by decide) (pc1 := 18) rfl (pc2 := 16) rfl (fun h3 => ?_) (fun h3 => ?_)
      · refine C.iloadN d2_18 rfl (pc' := 19) rfl ?_
        refine C.aloadN d2_19 rfl (pc' := 20) rfl ?_
        refine C.iloadN d2_20 rfl (pc' := 21) rfl ?_
        refine C.baload V_a (i := p) (own_idx (by omega)) (v := (.int x)) hx d2_21 (pc' := 22) rfl ?_
        refine C.callSP (c_step l Z a0 hw [] n0 h s x hs) (i1 := 10) (i2 := 11) (i3 := 3) (i4 := 12) rfl rfl rfl rfl (by decide) pd_0 rfl (argsL := [(.int (Int32.ofNat s)), (.int x)]) rfl (rest := []) rfl rfl (W := 0) rfl (by decide) (by decide) (by decide) (by decide) d2_22 (pc' := 25) rfl (k' := 0) rfl (n' := 0) rfl ?_
        exact C.ireturn d2_25 rfl (by decide) (by decide) ⟨by unfold own_fd; rw [if_neg]; rintro (q | q | q); exact h1 ((own_lt (by omega) (by omega)).mpr q); exact absurd ((own_lt (by omega) (by omega)).mp h2) (by omega); exact h3 ((own_eq (i := s) (j := 5) (by omega) (by decide)).mpr q), rfl⟩
      · refine C.iloadN d2_16 rfl (pc' := 17) rfl ?_
        exact C.ireturn d2_17 rfl (by decide) (by decide) ⟨by unfold own_fd; rw [if_pos (Or.inr (Or.inr ((own_eq (i := s) (j := 5) (by omega) (by decide)).mp h3)))], rfl⟩
set_option maxRecDepth 65536 in
set_option maxHeartbeats 4000000 in
theorem c_end (l : Launch) (Z : State) (a0 : Array Value) (hw : ∀ d ∈ tables_1, d.before a0 Z = true) (wl : List Jvm.Cond) (n0 : Nat) (h : Heap) (a : Addr) (ys : List Int32) (f t : Nat) (V_a : Lst Z h a .byte (ys.map Value.int)) (hft : f ≤ t) (ht : t < 7) (hy : t ≤ ys.length) :
    Ctr l Z (⟨"com/example/slotwright/slotwright/serve/HttpHead", "end", "([BII)I"⟩ : MethodName) prog_238_method_2_code 7 (some .int) ({ frames := 0, cells := 0, slots := 0, locals := 0 } : Room) n0 #[(.ref a), (.int (Int32.ofNat f)), (.int (Int32.ofNat t))] h (fun v h' => v = some (.int (own_ri (own_end (fun p => own_cls (ys.getD p 0)) f t))) ∧ h' = h) wl := by
  refine Ctr.of (ls := #[.val (.ref a), .val (.int (Int32.ofNat f)), .val (.int (Int32.ofNat t)), .unset, .unset, .unset, .unset]) (by first | (exact plainFor_of_name (by first | (simp [plainName, overriddenIn]; done) | decide +kernel)) | decide +kernel) hw (fun m => entry_eq m (L1 := [.val (.ref a), .val (.int (Int32.ofNat f)), .val (.int (Int32.ofNat t))]) (k := 4) rfl rfl rfl) (fun G C => ?_)
  refine C.iloadN d4_0 rfl (pc' := 1) rfl ?_
  refine C.istoreN d4_1 (ls' := #[.val (.ref a), .val (.int (Int32.ofNat f)), .val (.int (Int32.ofNat t)), .val (.int (Int32.ofNat f)), .unset, .unset, .unset]) rfl (pc' := 2) rfl ?_
  have loop2 : ∀ (m : Nat) (s q i : Nat) (s6 : Slot), One s6 → t - i < m → i ≤ t → q ≤ i → s ≤ t → own_end (fun p => own_cls (ys.getD p 0)) f t = own_main (fun p => own_cls (ys.getD p 0)) t s m q i → G h 0 0 65 #[.val (.ref a), .val (.int (Int32.ofNat f)), .val (.int (Int32.ofNat t)), .val (.int (Int32.ofNat s)), .val (.int (Int32.ofNat q)), .val (.int (Int32.ofNat i)), s6] [] := by
    intro m
    induction m with
    | zero =>
      intro s q i s6 hs6 hm
      omega
    | succ m ih =>
      intro s q i s6 hs6 hm hi hq hs hR
      have hR' : own_end (fun p => own_cls (ys.getD p 0)) f t = (if i < t then (if (fun p => own_cls (ys.getD p 0)) i = 0 then (if (i = q ∨ (i = q + 1 ∧ (fun p => own_cls (ys.getD p 0)) q = 1)) ∧ s < q then i + 1 else own_main (fun p => own_cls (ys.getD p 0)) t s m (i + 1) (i + 1)) else own_main (fun p => own_cls (ys.getD p 0)) t s m q (i + 1)) else 0) := hR
      dsimp only at hR'
      refine C.iload d4_65 rfl (pc' := 67) rfl ?_
      refine C.iloadN d4_67 rfl (pc' := 68) rfl ?_
      refine C.icmp_ge d4_68 (by decide) (pc1 := 143) rfl (pc2 := 71) rfl (fun h1 => ?_) (fun h1 => ?_)
      · refine C.iconst d4_143 (v := -1) rfl (pc' := 144) rfl ?_
        exact C.ireturn d4_144 rfl (by decide) (by decide) ⟨by rw [hR', if_neg (fun q => h1 ((own_lt (by omega) (by omega)).mpr q))]; rfl, rfl⟩
      · have h1' : i < t := (own_lt (by omega) (by omega)).mp h1
        rw [if_pos h1'] at hR'
        refine C.aloadN d4_71 rfl (pc' := 72) rfl ?_
        refine C.iload d4_72 rfl (pc' := 74) rfl ?_
        refine C.baload V_a (i := i) (own_idx (by omega)) (v := (.int (ys.getD i 0))) (own_at (by omega)) d4_74 (pc' := 75) rfl ?_
        refine C.bipush d4_75 (v := 10) rfl (pc' := 77) rfl ?_
        refine C.icmp_eq d4_77 (by decide) (pc1 := 83) rfl (pc2 := 80) rfl (fun h2 => ?_) (fun h2 => ?_)
        · rw [if_pos (own_c0.mp h2)] at hR'
          refine C.iload d4_83 rfl (pc' := 85) rfl ?_
          refine C.iload d4_85 rfl (pc' := 87) rfl ?_
          suffices t113 : ∀ e : Bool, (e = decide (i = q ∨ (i = q + 1 ∧ own_cls (ys.getD q 0) = 1))) → G h 0 0 113 #[.val (.ref a), .val (.int (Int32.ofNat f)), .val (.int (Int32.ofNat t)), .val (.int (Int32.ofNat s)), .val (.int (Int32.ofNat q)), .val (.int (Int32.ofNat i)), s6] [(.int (b2i e))] by
            refine C.icmp_eq d4_87 (by decide) (pc1 := 108) rfl (pc2 := 90) rfl (fun h3 => ?_) (fun h3 => ?_)
            · refine C.iconst d4_108 (v := 1) rfl (pc' := 109) rfl ?_
              refine C.goto d4_109 (by decide) (pc' := 113) rfl ?_
              exact t113 true (by rw [decide_eq_true]; exact Or.inl ((own_eq (by omega) (by omega)).mp h3))
            · have h3' : ¬ i = q := fun z => h3 ((own_eq (by omega) (by omega)).mpr z)
              refine C.iload d4_90 rfl (pc' := 92) rfl ?_
              refine C.iload d4_92 rfl (pc' := 94) rfl ?_
              refine C.iconst d4_94 (v := 1) rfl (pc' := 95) rfl ?_
              refine C.iadd d4_95 (pc' := 96) rfl ?_
              refine castI (show ((Int32.ofNat q) + (1 : Int32)) = (Int32.ofNat (q + 1)) from (Int32.ofNat_add q 1).symm) ?_
              refine C.icmp_ne d4_96 (by decide) (pc1 := 112) rfl (pc2 := 99) rfl (fun h4 => ?_) (fun h4 => ?_)
              · refine C.iconst d4_112 (v := 0) rfl (pc' := 113) rfl ?_
                exact t113 false (by rw [decide_eq_false]; rintro (z | z); exact h3' z; exact h4 ((own_eq (by omega) (by omega)).mpr z.1))
              · have h4' : i = q + 1 := (own_eq (by omega) (by omega)).mp h4
                refine C.aloadN d4_99 rfl (pc' := 100) rfl ?_
                refine C.iload d4_100 rfl (pc' := 102) rfl ?_
                refine C.baload V_a (i := q) (own_idx (by omega)) (v := (.int (ys.getD q 0))) (own_at (by omega)) d4_102 (pc' := 103) rfl ?_
                refine C.bipush d4_103 (v := 13) rfl (pc' := 105) rfl ?_
                refine C.icmp_ne d4_105 (by decide) (pc1 := 112) rfl (pc2 := 108) rfl (fun h5 => ?_) (fun h5 => ?_)
                · refine C.iconst d4_112 (v := 0) rfl (pc' := 113) rfl ?_
                  exact t113 false (by rw [decide_eq_false]; rintro (z | z); exact h3' z; exact h5 (own_c1.mpr z.2))
                · refine C.iconst d4_108 (v := 1) rfl (pc' := 109) rfl ?_
                  refine C.goto d4_109 (by decide) (pc' := 113) rfl ?_
                  exact t113 true (by rw [decide_eq_true]; exact Or.inr ⟨h4', own_c1.mp h5⟩)
          intro e he
          refine C.istore d4_113 (ls' := #[.val (.ref a), .val (.int (Int32.ofNat f)), .val (.int (Int32.ofNat t)), .val (.int (Int32.ofNat s)), .val (.int (Int32.ofNat q)), .val (.int (Int32.ofNat i)), .val (.int (b2i e))]) (by rcases hs6 with rfl | ⟨w, rfl, hw⟩ <;> first | rfl | (cases w <;> first | rfl | (simp [Value.category] at hw))) (pc' := 115) rfl ?_
          refine C.iload d4_115 rfl (pc' := 117) rfl ?_
          refine C.if_eq d4_117 (by decide) (pc1 := 131) rfl (pc2 := 120) rfl (fun h6 => ?_) (fun h6 => ?_)
          · refine C.iload d4_131 rfl (pc' := 133) rfl ?_
            refine C.iconst d4_133 (v := 1) rfl (pc' := 134) rfl ?_
            refine C.iadd d4_134 (pc' := 135) rfl ?_
            refine castI (show ((Int32.ofNat i) + (1 : Int32)) = (Int32.ofNat (i + 1)) from (Int32.ofNat_add i 1).symm) ?_
            refine C.istore d4_135 (ls' := #[.val (.ref a), .val (.int (Int32.ofNat f)), .val (.int (Int32.ofNat t)), .val (.int (Int32.ofNat s)), .val (.int (Int32.ofNat (i + 1))), .val (.int (Int32.ofNat i)), .val (.int (b2i e))]) rfl (pc' := 137) rfl ?_
            refine C.iinc d4_137 (v := 1) rfl rfl (ls' := #[.val (.ref a), .val (.int (Int32.ofNat f)), .val (.int (Int32.ofNat t)), .val (.int (Int32.ofNat s)), .val (.int (Int32.ofNat (i + 1))), .val (.int (Int32.ofNat (i + 1))), .val (.int (b2i e))]) (by rw [show Int32.ofNat i + 1 = Int32.ofNat (i + 1) from (Int32.ofNat_add i 1).symm]; rfl) (pc' := 140) rfl ?_
            refine C.goto d4_140 (by decide) (pc' := 65) rfl ?_
            rw [if_neg (fun z => absurd z.1 (of_decide_eq_false (he ▸ b2i_f h6)))] at hR'
            exact ih s (i + 1) (i + 1) _ (One.val rfl) (by omega) (by omega) (by omega) hs hR'
          · refine C.iload d4_120 rfl (pc' := 122) rfl ?_
            refine C.iloadN d4_122 rfl (pc' := 123) rfl ?_
            refine C.icmp_le d4_123 (by decide) (pc1 := 131) rfl (pc2 := 126) rfl (fun h7 => ?_) (fun h7 => ?_)
            · refine C.iload d4_131 rfl (pc' := 133) rfl ?_
              refine C.iconst d4_133 (v := 1) rfl (pc' := 134) rfl ?_
              refine C.iadd d4_134 (pc' := 135) rfl ?_
              refine castI (show ((Int32.ofNat i) + (1 : Int32)) = (Int32.ofNat (i + 1)) from (Int32.ofNat_add i 1).symm) ?_
              refine C.istore d4_135 (ls' := #[.val (.ref a), .val (.int (Int32.ofNat f)), .val (.int (Int32.ofNat t)), .val (.int (Int32.ofNat s)), .val (.int (Int32.ofNat (i + 1))), .val (.int (Int32.ofNat i)), .val (.int (b2i e))]) rfl (pc' := 137) rfl ?_
              refine C.iinc d4_137 (v := 1) rfl rfl (ls' := #[.val (.ref a), .val (.int (Int32.ofNat f)), .val (.int (Int32.ofNat t)), .val (.int (Int32.ofNat s)), .val (.int (Int32.ofNat (i + 1))), .val (.int (Int32.ofNat (i + 1))), .val (.int (b2i e))]) (by rw [show Int32.ofNat i + 1 = Int32.ofNat (i + 1) from (Int32.ofNat_add i 1).symm]; rfl) (pc' := 140) rfl ?_
              refine C.goto d4_140 (by decide) (pc' := 65) rfl ?_
              rw [if_neg (fun z => h7 ((own_lt (by omega) (by omega)).mpr z.2))] at hR'
              exact ih s (i + 1) (i + 1) _ (One.val rfl) (by omega) (by omega) (by omega) hs hR'
            · refine C.iload d4_126 rfl (pc' := 128) rfl ?_
              refine C.iconst d4_128 (v := 1) rfl (pc' := 129) rfl ?_
              refine C.iadd d4_129 (pc' := 130) rfl ?_
              refine castI (show ((Int32.ofNat i) + (1 : Int32)) = (Int32.ofNat (i + 1)) from (Int32.ofNat_add i 1).symm) ?_
              exact C.ireturn d4_130 rfl (by decide) (by decide) ⟨by rw [hR', if_pos ⟨of_decide_eq_true (he ▸ b2i_t h6), (own_lt (by omega) (by omega)).mp h7⟩]; unfold own_ri; rw [if_neg (by omega)], rfl⟩
        · rw [if_neg (fun q => h2 (own_c0.mpr q))] at hR'
          refine C.goto d4_80 (by decide) (pc' := 137) rfl ?_
          refine C.iinc d4_137 (v := 1) rfl rfl (ls' := #[.val (.ref a), .val (.int (Int32.ofNat f)), .val (.int (Int32.ofNat t)), .val (.int (Int32.ofNat s)), .val (.int (Int32.ofNat q)), .val (.int (Int32.ofNat (i + 1))), s6]) (by rw [show Int32.ofNat i + 1 = Int32.ofNat (i + 1) from (Int32.ofNat_add i 1).symm]; rfl) (pc' := 140) rfl ?_
          refine C.goto d4_140 (by decide) (pc' := 65) rfl ?_
          exact ih s q (i + 1) s6 hs6 (by omega) (by omega) (by omega) hs hR'
  have ex : ∀ (s : Nat), s ≤ t → own_end (fun p => own_cls (ys.getD p 0)) f t = own_main (fun p => own_cls (ys.getD p 0)) t s 8 s s → G h 0 0 59 #[.val (.ref a), .val (.int (Int32.ofNat f)), .val (.int (Int32.ofNat t)), .val (.int (Int32.ofNat s)), .unset, .unset, .unset] [] := by
    intro s hs hR
    refine C.iloadN d4_59 rfl (pc' := 60) rfl ?_
    refine C.istore d4_60 (ls' := #[.val (.ref a), .val (.int (Int32.ofNat f)), .val (.int (Int32.ofNat t)), .val (.int (Int32.ofNat s)), .val (.int (Int32.ofNat s)), .unset, .unset]) rfl (pc' := 62) rfl ?_
    refine C.iloadN d4_62 rfl (pc' := 63) rfl ?_
    refine C.istore d4_63 (ls' := #[.val (.ref a), .val (.int (Int32.ofNat f)), .val (.int (Int32.ofNat t)), .val (.int (Int32.ofNat s)), .val (.int (Int32.ofNat s)), .val (.int (Int32.ofNat s)), .unset]) rfl (pc' := 65) rfl ?_
    exact loop2 8 s s s .unset One.u (by omega) hs (Nat.le_refl _) hs hR
  have loop1 : ∀ (m p : Nat), t - p < m → p ≤ t → own_end (fun p => own_cls (ys.getD p 0)) f t = own_main (fun p => own_cls (ys.getD p 0)) t (own_skip (fun p => own_cls (ys.getD p 0)) t m p) 8 (own_skip (fun p => own_cls (ys.getD p 0)) t m p) (own_skip (fun p => own_cls (ys.getD p 0)) t m p) → G h 0 0 2 #[.val (.ref a), .val (.int (Int32.ofNat f)), .val (.int (Int32.ofNat t)), .val (.int (Int32.ofNat p)), .unset, .unset, .unset] [] := by
    intro m
    induction m with
    | zero =>
      intro p hm
      omega
    | succ m ih =>
      intro p hm hp hR
      have e : own_skip (fun p => own_cls (ys.getD p 0)) t (m + 1) p = (if p < t ∧ own_cls (ys.getD p 0) = 0 then own_skip (fun p => own_cls (ys.getD p 0)) t m (p + 1) else if p + 1 < t ∧ own_cls (ys.getD p 0) = 1 ∧ own_cls (ys.getD (p + 1) 0) = 0 then own_skip (fun p => own_cls (ys.getD p 0)) t m (p + 2) else p) := rfl
      rw [e] at hR
      refine C.iloadN d4_2 rfl (pc' := 3) rfl ?_
      refine C.iloadN d4_3 rfl (pc' := 4) rfl ?_
      refine C.icmp_ge d4_4 (by decide) (pc1 := 59) rfl (pc2 := 7) rfl (fun h1 => ?_) (fun h1 => ?_)
      · have h1' : ¬ p < t := fun q => h1 ((own_lt (by omega) (by omega)).mpr q)
        rw [if_neg (fun z => h1' z.1), if_neg (fun z => h1' (by omega))] at hR
        exact ex p hp hR
      · have h1' : p < t := (own_lt (by omega) (by omega)).mp h1
        refine C.aloadN d4_7 rfl (pc' := 8) rfl ?_
        refine C.iloadN d4_8 rfl (pc' := 9) rfl ?_
        refine C.baload V_a (i := p) (own_idx (by omega)) (v := (.int (ys.getD p 0))) (own_at (by omega)) d4_9 (pc' := 10) rfl ?_
        refine C.bipush d4_10 (v := 10) rfl (pc' := 12) rfl ?_
        refine C.icmp_eq d4_12 (by decide) (pc1 := 40) rfl (pc2 := 15) rfl (fun h2 => ?_) (fun h2 => ?_)
        · rw [if_pos ⟨h1', own_c0.mp h2⟩] at hR
          refine C.iloadN d4_40 rfl (pc' := 41) rfl ?_
          refine C.aloadN d4_41 rfl (pc' := 42) rfl ?_
          refine C.iloadN d4_42 rfl (pc' := 43) rfl ?_
          refine C.baload V_a (i := p) (own_idx (by omega)) (v := (.int (ys.getD p 0))) (own_at (by omega)) d4_43 (pc' := 44) rfl ?_
          refine C.bipush d4_44 (v := 10) rfl (pc' := 46) rfl ?_
          refine C.icmp_ne_F d4_46 h2 (pc' := 49) rfl ?_
          refine C.iconst d4_49 (v := 1) rfl (pc' := 50) rfl ?_
          refine C.goto d4_50 (by decide) (pc' := 54) rfl ?_
          refine C.iadd d4_54 (pc' := 55) rfl ?_
          refine castI (show ((Int32.ofNat p) + (1 : Int32)) = (Int32.ofNat (p + 1)) from (Int32.ofNat_add p 1).symm) ?_
          refine C.istoreN d4_55 (ls' := #[.val (.ref a), .val (.int (Int32.ofNat f)), .val (.int (Int32.ofNat t)), .val (.int (Int32.ofNat (p + 1))), .unset, .unset, .unset]) rfl (pc' := 56) rfl ?_
          refine C.goto d4_56 (by decide) (pc' := 2) rfl ?_
          exact ih (p + 1) (by omega) (by omega) hR
        · refine C.aloadN d4_15 rfl (pc' := 16) rfl ?_
          refine C.iloadN d4_16 rfl (pc' := 17) rfl ?_
          refine C.baload V_a (i := p) (own_idx (by omega)) (v := (.int (ys.getD p 0))) (own_at (by omega)) d4_17 (pc' := 18) rfl ?_
          refine C.bipush d4_18 (v := 13) rfl (pc' := 20) rfl ?_
          refine C.icmp_ne d4_20 (by decide) (pc1 := 59) rfl (pc2 := 23) rfl (fun h3 => ?_) (fun h3 => ?_)
          · rw [if_neg (fun z => h2 (own_c0.mpr z.2)), if_neg (fun z => h3 (own_c1.mpr z.2.1))] at hR
            exact ex p hp hR
          · refine C.iloadN d4_23 rfl (pc' := 24) rfl ?_
            refine C.iconst d4_24 (v := 1) rfl (pc' := 25) rfl ?_
            refine C.iadd d4_25 (pc' := 26) rfl ?_
            refine castI (show ((Int32.ofNat p) + (1 : Int32)) = (Int32.ofNat (p + 1)) from (Int32.ofNat_add p 1).symm) ?_
            refine C.iloadN d4_26 rfl (pc' := 27) rfl ?_
            refine C.icmp_ge d4_27 (by decide) (pc1 := 59) rfl (pc2 := 30) rfl (fun h4 => ?_) (fun h4 => ?_)
            · rw [if_neg (fun z => h2 (own_c0.mpr z.2)), if_neg (fun z => h4 ((own_lt (by omega) (by omega)).mpr z.1))] at hR
              exact ex p hp hR
            · have h4' : p + 1 < t := (own_lt (by omega) (by omega)).mp h4
              refine C.aloadN d4_30 rfl (pc' := 31) rfl ?_
              refine C.iloadN d4_31 rfl (pc' := 32) rfl ?_
              refine C.iconst d4_32 (v := 1) rfl (pc' := 33) rfl ?_
              refine C.iadd d4_33 (pc' := 34) rfl ?_
              refine castI (show ((Int32.ofNat p) + (1 : Int32)) = (Int32.ofNat (p + 1)) from (Int32.ofNat_add p 1).symm) ?_
              refine C.baload V_a (i := (p + 1)) (own_idx (by omega)) (v := (.int (ys.getD (p + 1) 0))) (own_at (by omega)) d4_34 (pc' := 35) rfl ?_
              refine C.bipush d4_35 (v := 10) rfl (pc' := 37) rfl ?_
              refine C.icmp_ne d4_37 (by decide) (pc1 := 59) rfl (pc2 := 40) rfl (fun h5 => ?_) (fun h5 => ?_)
              · rw [if_neg (fun z => h2 (own_c0.mpr z.2)), if_neg (fun z => h5 (own_c0.mpr z.2.2))] at hR
                exact ex p hp hR
              · rw [if_neg (fun z => h2 (own_c0.mpr z.2)), if_pos ⟨h4', own_c1.mp h3, own_c0.mp h5⟩] at hR
                refine C.iloadN d4_40 rfl (pc' := 41) rfl ?_
                refine C.aloadN d4_41 rfl (pc' := 42) rfl ?_
                refine C.iloadN d4_42 rfl (pc' := 43) rfl ?_
                refine C.baload V_a (i := p) (own_idx (by omega)) (v := (.int (ys.getD p 0))) (own_at (by omega)) d4_43 (pc' := 44) rfl ?_
                refine C.bipush d4_44 (v := 10) rfl (pc' := 46) rfl ?_
                refine C.icmp_ne_T d4_46 h2 (by decide) (pc' := 53) rfl ?_
                refine C.iconst d4_53 (v := 2) rfl (pc' := 54) rfl ?_
                refine C.iadd d4_54 (pc' := 55) rfl ?_
                refine castI (show ((Int32.ofNat p) + (2 : Int32)) = (Int32.ofNat (p + 2)) from (Int32.ofNat_add p 2).symm) ?_
                refine C.istoreN d4_55 (ls' := #[.val (.ref a), .val (.int (Int32.ofNat f)), .val (.int (Int32.ofNat t)), .val (.int (Int32.ofNat (p + 2))), .unset, .unset, .unset]) rfl (pc' := 56) rfl ?_
                refine C.goto d4_56 (by decide) (pc' := 2) rfl ?_
                exact ih (p + 2) (by omega) (by omega) hR
  exact loop1 8 f (by omega) hft rfl
set_option maxRecDepth 65536 in
set_option maxHeartbeats 4000000 in
theorem c_law (l : Launch) (Z : State) (a0 : Array Value) (hw : ∀ d ∈ tables_1, d.before a0 Z = true) (wl : List Jvm.Cond) (n0 : Nat) (h : Heap) (sel raw : Int64) (fi ti : Int32) (hz : n0 ≤ h.size) :
    Ctr l Z x code maxLocals ret room_1 n0 #[(.long sel), (.long raw), (.int fi), (.int ti)] h (fun v _ => v = some (.int 1)) wl := by
  refine Ctr.of (ls := #[.val (.long sel), .second, .val (.long raw), .second, .val (.int fi), .val (.int ti), .unset, .unset, .unset, .unset, .unset]) (by first | (exact plainFor_of_name (by first | (simp [plainName, overriddenIn]; done) | decide +kernel)) | decide +kernel) hw (fun m => entry_eq m (L1 := [.val (.long sel), .second, .val (.long raw), .second, .val (.int fi), .val (.int ti)]) (k := 5) rfl rfl rfl) (fun G C => ?_)
  refine C.bipush at_0 (v := 6) rfl (pc' := 2) rfl ?_
  refine C.newarray (w := 0) (ty := .byte) rfl rfl (N := 6) ⟨by decide, by decide⟩ (d := (.int (0 : Int32))) rfl (vs := [(.int (0 : Int32)), (.int (0 : Int32)), (.int (0 : Int32)), (.int (0 : Int32)), (.int (0 : Int32)), (.int (0 : Int32))]) rfl (cap := 6) (by decide) (by decide) (by decide) (by decide) at_2 (pc' := 4) rfl ?_
  intro h1 o2 q3 E4 V_o2
  have g_o2 : n0 ≤ o2 := Nat.le_trans hz (Nat.le_of_eq q3.symm)
  have hz := Nat.le_trans hz E4.1
  refine C.astore at_4 (ls' := #[.val (.long sel), .second, .val (.long raw), .second, .val (.int fi), .val (.int ti), .val (.ref o2), .unset, .unset, .unset, .unset]) rfl (pc' := 6) rfl ?_
  refine C.aload at_6 rfl (pc' := 8) rfl ?_
  refine C.iconst at_8 (v := 0) rfl (pc' := 9) rfl ?_
  refine C.lloadN at_9 rfl (pc' := 10) rfl ?_
  refine C.lloadN at_10 rfl (pc' := 11) rfl ?_
  refine C.iconst at_11 (v := 0) rfl (pc' := 12) rfl ?_
  refine C.callS (c_pick l Z a0 hw [] n0 h1 sel raw (0 : Int32)) (i1 := 1) (i2 := 2) (i3 := 3) (i4 := 4) rfl rfl rfl rfl (by decide) pd_1 rfl (argsL := [(.long sel), (.long raw), (.int (0 : Int32))]) rfl (rest := [(.int (0 : Int32)), (.ref o2)]) rfl rfl (W := 2) rfl (by decide) (by decide) (by decide) (by decide) at_12 (pc' := 15) rfl (k' := 1) rfl (n' := 6) rfl ?_
  rintro _ h9 ⟨⟨b0, rfl, nb0⟩, hh⟩
  rw [hh]
  clear hh h9
  show G h1 1 6 15 #[.val (.long sel), .second, .val (.long raw), .second, .val (.int fi), .val (.int ti), .val (.ref o2), .unset, .unset, .unset, .unset] [(.int b0), (.int (0 : Int32)), (.ref o2)]
  refine C.bastore V_o2 (i := 0) ⟨by decide, by decide⟩ (by simp) (x' := b0) nb0 (vs' := [(.int b0), (.int (0 : Int32)), (.int (0 : Int32)), (.int (0 : Int32)), (.int (0 : Int32)), (.int (0 : Int32))]) rfl g_o2 at_15 (pc' := 16) rfl ?_
  intro h5 W6 V_o2
  have hz : n0 ≤ _ := Nat.le_trans hz (Nat.le_of_eq W6.size.symm)
  refine C.aload at_16 rfl (pc' := 18) rfl ?_
  refine C.iconst at_18 (v := 1) rfl (pc' := 19) rfl ?_
  refine C.lloadN at_19 rfl (pc' := 20) rfl ?_
  refine C.lloadN at_20 rfl (pc' := 21) rfl ?_
  refine C.iconst at_21 (v := 1) rfl (pc' := 22) rfl ?_
  refine C.callS (c_pick l Z a0 hw [] n0 h5 sel raw (1 : Int32)) (i1 := 1) (i2 := 2) (i3 := 3) (i4 := 4) rfl rfl rfl rfl (by decide) pd_1 rfl (argsL := [(.long sel), (.long raw), (.int (1 : Int32))]) rfl (rest := [(.int (1 : Int32)), (.ref o2)]) rfl rfl (W := 2) rfl (by decide) (by decide) (by decide) (by decide) at_22 (pc' := 25) rfl (k' := 1) rfl (n' := 6) rfl ?_
  rintro _ h9 ⟨⟨b1, rfl, nb1⟩, hh⟩
  rw [hh]
  clear hh h9
  show G h5 1 6 25 #[.val (.long sel), .second, .val (.long raw), .second, .val (.int fi), .val (.int ti), .val (.ref o2), .unset, .unset, .unset, .unset] [(.int b1), (.int (1 : Int32)), (.ref o2)]
  refine C.bastore V_o2 (i := 1) ⟨by decide, by decide⟩ (by simp) (x' := b1) nb1 (vs' := [(.int b0), (.int b1), (.int (0 : Int32)), (.int (0 : Int32)), (.int (0 : Int32)), (.int (0 : Int32))]) rfl g_o2 at_25 (pc' := 26) rfl ?_
  intro h7 W8 V_o2
  have hz : n0 ≤ _ := Nat.le_trans hz (Nat.le_of_eq W8.size.symm)
  refine C.aload at_26 rfl (pc' := 28) rfl ?_
  refine C.iconst at_28 (v := 2) rfl (pc' := 29) rfl ?_
  refine C.lloadN at_29 rfl (pc' := 30) rfl ?_
  refine C.lloadN at_30 rfl (pc' := 31) rfl ?_
  refine C.iconst at_31 (v := 2) rfl (pc' := 32) rfl ?_
  refine C.callS (c_pick l Z a0 hw [] n0 h7 sel raw (2 : Int32)) (i1 := 1) (i2 := 2) (i3 := 3) (i4 := 4) rfl rfl rfl rfl (by decide) pd_1 rfl (argsL := [(.long sel), (.long raw), (.int (2 : Int32))]) rfl (rest := [(.int (2 : Int32)), (.ref o2)]) rfl rfl (W := 2) rfl (by decide) (by decide) (by decide) (by decide) at_32 (pc' := 35) rfl (k' := 1) rfl (n' := 6) rfl ?_
  rintro _ h9 ⟨⟨b2, rfl, nb2⟩, hh⟩
  rw [hh]
  clear hh h9
  show G h7 1 6 35 #[.val (.long sel), .second, .val (.long raw), .second, .val (.int fi), .val (.int ti), .val (.ref o2), .unset, .unset, .unset, .unset] [(.int b2), (.int (2 : Int32)), (.ref o2)]
  refine C.bastore V_o2 (i := 2) ⟨by decide, by decide⟩ (by simp) (x' := b2) nb2 (vs' := [(.int b0), (.int b1), (.int b2), (.int (0 : Int32)), (.int (0 : Int32)), (.int (0 : Int32))]) rfl g_o2 at_35 (pc' := 36) rfl ?_
  intro h9 W10 V_o2
  have hz : n0 ≤ _ := Nat.le_trans hz (Nat.le_of_eq W10.size.symm)
  refine C.aload at_36 rfl (pc' := 38) rfl ?_
  refine C.iconst at_38 (v := 3) rfl (pc' := 39) rfl ?_
  refine C.lloadN at_39 rfl (pc' := 40) rfl ?_
  refine C.lloadN at_40 rfl (pc' := 41) rfl ?_
  refine C.iconst at_41 (v := 3) rfl (pc' := 42) rfl ?_
  refine C.callS (c_pick l Z a0 hw [] n0 h9 sel raw (3 : Int32)) (i1 := 1) (i2 := 2) (i3 := 3) (i4 := 4) rfl rfl rfl rfl (by decide) pd_1 rfl (argsL := [(.long sel), (.long raw), (.int (3 : Int32))]) rfl (rest := [(.int (3 : Int32)), (.ref o2)]) rfl rfl (W := 2) rfl (by decide) (by decide) (by decide) (by decide) at_42 (pc' := 45) rfl (k' := 1) rfl (n' := 6) rfl ?_
  rintro _ h9 ⟨⟨b3, rfl, nb3⟩, hh⟩
  rw [hh]
  clear hh h9
  show G h9 1 6 45 #[.val (.long sel), .second, .val (.long raw), .second, .val (.int fi), .val (.int ti), .val (.ref o2), .unset, .unset, .unset, .unset] [(.int b3), (.int (3 : Int32)), (.ref o2)]
  refine C.bastore V_o2 (i := 3) ⟨by decide, by decide⟩ (by simp) (x' := b3) nb3 (vs' := [(.int b0), (.int b1), (.int b2), (.int b3), (.int (0 : Int32)), (.int (0 : Int32))]) rfl g_o2 at_45 (pc' := 46) rfl ?_
  intro h11 W12 V_o2
  have hz : n0 ≤ _ := Nat.le_trans hz (Nat.le_of_eq W12.size.symm)
  refine C.aload at_46 rfl (pc' := 48) rfl ?_
  refine C.iconst at_48 (v := 4) rfl (pc' := 49) rfl ?_
  refine C.lloadN at_49 rfl (pc' := 50) rfl ?_
  refine C.lloadN at_50 rfl (pc' := 51) rfl ?_
  refine C.iconst at_51 (v := 4) rfl (pc' := 52) rfl ?_
  refine C.callS (c_pick l Z a0 hw [] n0 h11 sel raw (4 : Int32)) (i1 := 1) (i2 := 2) (i3 := 3) (i4 := 4) rfl rfl rfl rfl (by decide) pd_1 rfl (argsL := [(.long sel), (.long raw), (.int (4 : Int32))]) rfl (rest := [(.int (4 : Int32)), (.ref o2)]) rfl rfl (W := 2) rfl (by decide) (by decide) (by decide) (by decide) at_52 (pc' := 55) rfl (k' := 1) rfl (n' := 6) rfl ?_
  rintro _ h9 ⟨⟨b4, rfl, nb4⟩, hh⟩
  rw [hh]
  clear hh h9
  show G h11 1 6 55 #[.val (.long sel), .second, .val (.long raw), .second, .val (.int fi), .val (.int ti), .val (.ref o2), .unset, .unset, .unset, .unset] [(.int b4), (.int (4 : Int32)), (.ref o2)]
  refine C.bastore V_o2 (i := 4) ⟨by decide, by decide⟩ (by simp) (x' := b4) nb4 (vs' := [(.int b0), (.int b1), (.int b2), (.int b3), (.int b4), (.int (0 : Int32))]) rfl g_o2 at_55 (pc' := 56) rfl ?_
  intro h13 W14 V_o2
  have hz : n0 ≤ _ := Nat.le_trans hz (Nat.le_of_eq W14.size.symm)
  refine C.aload at_56 rfl (pc' := 58) rfl ?_
  refine C.iconst at_58 (v := 5) rfl (pc' := 59) rfl ?_
  refine C.lloadN at_59 rfl (pc' := 60) rfl ?_
  refine C.lloadN at_60 rfl (pc' := 61) rfl ?_
  refine C.iconst at_61 (v := 5) rfl (pc' := 62) rfl ?_
  refine C.callS (c_pick l Z a0 hw [] n0 h13 sel raw (5 : Int32)) (i1 := 1) (i2 := 2) (i3 := 3) (i4 := 4) rfl rfl rfl rfl (by decide) pd_1 rfl (argsL := [(.long sel), (.long raw), (.int (5 : Int32))]) rfl (rest := [(.int (5 : Int32)), (.ref o2)]) rfl rfl (W := 2) rfl (by decide) (by decide) (by decide) (by decide) at_62 (pc' := 65) rfl (k' := 1) rfl (n' := 6) rfl ?_
  rintro _ h9 ⟨⟨b5, rfl, nb5⟩, hh⟩
  rw [hh]
  clear hh h9
  show G h13 1 6 65 #[.val (.long sel), .second, .val (.long raw), .second, .val (.int fi), .val (.int ti), .val (.ref o2), .unset, .unset, .unset, .unset] [(.int b5), (.int (5 : Int32)), (.ref o2)]
  refine C.bastore V_o2 (i := 5) ⟨by decide, by decide⟩ (by simp) (x' := b5) nb5 (vs' := [(.int b0), (.int b1), (.int b2), (.int b3), (.int b4), (.int b5)]) rfl g_o2 at_65 (pc' := 66) rfl ?_
  intro h15 W16 V_o2
  have hz : n0 ≤ _ := Nat.le_trans hz (Nat.le_of_eq W16.size.symm)
  refine C.iload at_66 rfl (pc' := 68) rfl ?_
  refine C.ldcI (i := 6) rfl at_68 (pc' := 70) rfl ?_
  refine C.iand at_70 (pc' := 71) rfl ?_
  refine C.bipush at_71 (v := 7) rfl (pc' := 73) rfl ?_
  refine C.irem at_73 (by decide) (pc' := 74) rfl ?_
  obtain ⟨f, hf, hf7⟩ := own_from fi
  refine castI (show ((fi &&& (2147483647 : Int32)) % (7 : Int32)) = (Int32.ofNat f) from hf) ?_
  refine C.istore at_74 (ls' := #[.val (.long sel), .second, .val (.long raw), .second, .val (.int fi), .val (.int ti), .val (.ref o2), .val (.int (Int32.ofNat f)), .unset, .unset, .unset]) rfl (pc' := 76) rfl ?_
  refine C.iload at_76 rfl (pc' := 78) rfl ?_
  refine C.iload at_78 rfl (pc' := 80) rfl ?_
  refine C.ldcI (i := 6) rfl at_80 (pc' := 82) rfl ?_
  refine C.iand at_82 (pc' := 83) rfl ?_
  refine C.bipush at_83 (v := 7) rfl (pc' := 85) rfl ?_
  refine C.iload at_85 rfl (pc' := 87) rfl ?_
  refine C.isub at_87 (pc' := 88) rfl ?_
  refine castI (show ((7 : Int32) - (Int32.ofNat f)) = (Int32.ofNat (7 - f)) from own_sub7 hf7) ?_
  refine C.irem at_88 (own_nz hf7) (pc' := 89) rfl ?_
  obtain ⟨tm, ht, htm⟩ := own_to ti hf7
  refine castI (show ((ti &&& (2147483647 : Int32)) % (Int32.ofNat (7 - f))) = (Int32.ofNat tm) from ht) ?_
  refine C.iadd at_89 (pc' := 90) rfl ?_
  refine castI (show ((Int32.ofNat f) + (Int32.ofNat tm)) = (Int32.ofNat (f + tm)) from (Int32.ofNat_add f tm).symm) ?_
  refine C.istore at_90 (ls' := #[.val (.long sel), .second, .val (.long raw), .second, .val (.int fi), .val (.int ti), .val (.ref o2), .val (.int (Int32.ofNat f)), .val (.int (Int32.ofNat (f + tm))), .unset, .unset]) rfl (pc' := 92) rfl ?_
  refine C.iconst at_92 (v := 0) rfl (pc' := 93) rfl ?_
  refine C.istore at_93 (ls' := #[.val (.long sel), .second, .val (.long raw), .second, .val (.int fi), .val (.int ti), .val (.ref o2), .val (.int (Int32.ofNat f)), .val (.int (Int32.ofNat (f + tm))), .val (.int (0 : Int32)), .unset]) rfl (pc' := 95) rfl ?_
  refine C.iconst at_95 (v := -1) rfl (pc' := 96) rfl ?_
  refine C.istore at_96 (ls' := #[.val (.long sel), .second, .val (.long raw), .second, .val (.int fi), .val (.int ti), .val (.ref o2), .val (.int (Int32.ofNat f)), .val (.int (Int32.ofNat (f + tm))), .val (.int (0 : Int32)), .val (.int (-1 : Int32))]) rfl (pc' := 98) rfl ?_
  show G h15 1 6 98 #[.val (.long sel), .second, .val (.long raw), .second, .val (.int fi), .val (.int ti), .val (.ref o2), .val (.int (Int32.ofNat f)), .val (.int (Int32.ofNat (f + tm))), .val (.int (Int32.ofNat 0)), .val (.int (own_ri 0))] []
  have s5 : 0 ≤ 5 := by decide
  have r7 : (0 : Nat) < 100 := by decide
  refine C.iload at_98 rfl (pc' := 100) rfl ?_
  refine C.aload at_100 rfl (pc' := 102) rfl ?_
  refine C.iconst at_102 (v := 0) rfl (pc' := 103) rfl ?_
  refine C.iload at_103 rfl (pc' := 105) rfl ?_
  refine C.iload at_105 rfl (pc' := 107) rfl ?_
  refine C.callSP (c_feed l Z a0 hw [] n0 h15 o2 _ 0 0 f (f + tm) b0 V_o2 s5 (by decide) hf7 (by omega) rfl) (i1 := 7) (i2 := 8) (i3 := 3) (i4 := 9) rfl rfl rfl rfl (by decide) pd_2 rfl (argsL := [(.int (Int32.ofNat 0)), (.ref o2), (.int (0 : Int32)), (.int (Int32.ofNat f)), (.int (Int32.ofNat (f + tm)))]) rfl (rest := []) rfl rfl (W := 0) rfl (by decide) (by decide) (by decide) (by decide) at_107 (pc' := 110) rfl (k' := 1) rfl (n' := 6) rfl ?_
  obtain ⟨s1x, hs1⟩ : ∃ n, own_fd 0 (own_cls b0) 0 f (f + tm) = n := ⟨_, rfl⟩
  have s5 : s1x ≤ 5 := hs1 ▸ own_fd5 _ _ _ _ s5
  refine castI (show (Int32.ofNat (own_fd 0 (own_cls b0) 0 f (f + tm))) = (Int32.ofNat s1x) from congrArg Int32.ofNat hs1) ?_
  refine C.istore at_110 (ls' := #[.val (.long sel), .second, .val (.long raw), .second, .val (.int fi), .val (.int ti), .val (.ref o2), .val (.int (Int32.ofNat f)), .val (.int (Int32.ofNat (f + tm))), .val (.int (Int32.ofNat s1x)), .val (.int (own_ri 0))]) rfl (pc' := 112) rfl ?_
  refine C.iload at_112 rfl (pc' := 114) rfl ?_
  refine C.iconst at_114 (v := 5) rfl (pc' := 115) rfl ?_
  obtain ⟨r1x, hr1⟩ : ∃ n, own_up s1x 0 0 = n := ⟨_, rfl⟩
  suffices t126 : G h15 1 6 126 #[.val (.long sel), .second, .val (.long raw), .second, .val (.int fi), .val (.int ti), .val (.ref o2), .val (.int (Int32.ofNat f)), .val (.int (Int32.ofNat (f + tm))), .val (.int (Int32.ofNat s1x)), .val (.int (own_ri r1x))] [] by
    refine C.icmp_ne at_115 (by decide) (pc1 := 126) rfl (pc2 := 118) rfl (fun h1 => ?_) (fun h1 => ?_)
    · rw [show r1x = 0 from by rw [← hr1]; unfold own_up; rw [if_neg (fun z => h1 ((own_eq (i := s1x) (j := 5) (by omega) (by decide)).mpr z.1))]] at t126
      exact t126
    · have h1' : s1x = 5 := (own_eq (i := s1x) (j := 5) (by omega) (by decide)).mp h1
      refine C.iload at_118 rfl (pc' := 120) rfl ?_
      refine C.if_ge at_120 (by decide) (pc1 := 126) rfl (pc2 := 123) rfl (fun h2 => ?_) (fun h2 => ?_)
      · rw [show r1x = 0 from by rw [← hr1]; unfold own_up; rw [if_neg (fun z => h2 ((own_ri0 r7).mpr z.2))]] at t126
        exact t126
      · refine C.iconst at_123 (v := 1) rfl (pc' := 124) rfl ?_
        refine C.istore at_124 (ls' := #[.val (.long sel), .second, .val (.long raw), .second, .val (.int fi), .val (.int ti), .val (.ref o2), .val (.int (Int32.ofNat f)), .val (.int (Int32.ofNat (f + tm))), .val (.int (Int32.ofNat s1x)), .val (.int (1 : Int32))]) rfl (pc' := 126) rfl ?_
        rw [show r1x = 1 from by rw [← hr1]; unfold own_up; rw [if_pos ⟨h1', (own_ri0 r7).mp h2⟩]] at t126
        exact t126
  have r7 : r1x < 100 := by rw [← hr1]; unfold own_up; split <;> omega
  refine C.iload at_126 rfl (pc' := 128) rfl ?_
  refine C.aload at_128 rfl (pc' := 130) rfl ?_
  refine C.iconst at_130 (v := 1) rfl (pc' := 131) rfl ?_
  refine C.iload at_131 rfl (pc' := 133) rfl ?_
  refine C.iload at_133 rfl (pc' := 135) rfl ?_
  refine C.callSP (c_feed l Z a0 hw [] n0 h15 o2 _ s1x 1 f (f + tm) b1 V_o2 s5 (by decide) hf7 (by omega) rfl) (i1 := 7) (i2 := 8) (i3 := 3) (i4 := 9) rfl rfl rfl rfl (by decide) pd_2 rfl (argsL := [(.int (Int32.ofNat s1x)), (.ref o2), (.int (1 : Int32)), (.int (Int32.ofNat f)), (.int (Int32.ofNat (f + tm)))]) rfl (rest := []) rfl rfl (W := 0) rfl (by decide) (by decide) (by decide) (by decide) at_135 (pc' := 138) rfl (k' := 1) rfl (n' := 6) rfl ?_
  obtain ⟨s2x, hs2⟩ : ∃ n, own_fd s1x (own_cls b1) 1 f (f + tm) = n := ⟨_, rfl⟩
  have s5 : s2x ≤ 5 := hs2 ▸ own_fd5 _ _ _ _ s5
  refine castI (show (Int32.ofNat (own_fd s1x (own_cls b1) 1 f (f + tm))) = (Int32.ofNat s2x) from congrArg Int32.ofNat hs2) ?_
  refine C.istore at_138 (ls' := #[.val (.long sel), .second, .val (.long raw), .second, .val (.int fi), .val (.int ti), .val (.ref o2), .val (.int (Int32.ofNat f)), .val (.int (Int32.ofNat (f + tm))), .val (.int (Int32.ofNat s2x)), .val (.int (own_ri r1x))]) rfl (pc' := 140) rfl ?_
  refine C.iload at_140 rfl (pc' := 142) rfl ?_
  refine C.iconst at_142 (v := 5) rfl (pc' := 143) rfl ?_
  obtain ⟨r2x, hr2⟩ : ∃ n, own_up s2x r1x 1 = n := ⟨_, rfl⟩
  suffices t154 : G h15 1 6 154 #[.val (.long sel), .second, .val (.long raw), .second, .val (.int fi), .val (.int ti), .val (.ref o2), .val (.int (Int32.ofNat f)), .val (.int (Int32.ofNat (f + tm))), .val (.int (Int32.ofNat s2x)), .val (.int (own_ri r2x))] [] by
    refine C.icmp_ne at_143 (by decide) (pc1 := 154) rfl (pc2 := 146) rfl (fun h1 => ?_) (fun h1 => ?_)
    · rw [show r2x = r1x from by rw [← hr2]; unfold own_up; rw [if_neg (fun z => h1 ((own_eq (i := s2x) (j := 5) (by omega) (by decide)).mpr z.1))]] at t154
      exact t154
    · have h1' : s2x = 5 := (own_eq (i := s2x) (j := 5) (by omega) (by decide)).mp h1
      refine C.iload at_146 rfl (pc' := 148) rfl ?_
      refine C.if_ge at_148 (by decide) (pc1 := 154) rfl (pc2 := 151) rfl (fun h2 => ?_) (fun h2 => ?_)
      · rw [show r2x = r1x from by rw [← hr2]; unfold own_up; rw [if_neg (fun z => h2 ((own_ri0 r7).mpr z.2))]] at t154
        exact t154
      · refine C.iconst at_151 (v := 2) rfl (pc' := 152) rfl ?_
        refine C.istore at_152 (ls' := #[.val (.long sel), .second, .val (.long raw), .second, .val (.int fi), .val (.int ti), .val (.ref o2), .val (.int (Int32.ofNat f)), .val (.int (Int32.ofNat (f + tm))), .val (.int (Int32.ofNat s2x)), .val (.int (2 : Int32))]) rfl (pc' := 154) rfl ?_
        rw [show r2x = 2 from by rw [← hr2]; unfold own_up; rw [if_pos ⟨h1', (own_ri0 r7).mp h2⟩]] at t154
        exact t154
  have r7 : r2x < 100 := by rw [← hr2]; unfold own_up; split <;> omega
  refine C.iload at_154 rfl (pc' := 156) rfl ?_
  refine C.aload at_156 rfl (pc' := 158) rfl ?_
  refine C.iconst at_158 (v := 2) rfl (pc' := 159) rfl ?_
  refine C.iload at_159 rfl (pc' := 161) rfl ?_
  refine C.iload at_161 rfl (pc' := 163) rfl ?_
  refine C.callSP (c_feed l Z a0 hw [] n0 h15 o2 _ s2x 2 f (f + tm) b2 V_o2 s5 (by decide) hf7 (by omega) rfl) (i1 := 7) (i2 := 8) (i3 := 3) (i4 := 9) rfl rfl rfl rfl (by decide) pd_2 rfl (argsL := [(.int (Int32.ofNat s2x)), (.ref o2), (.int (2 : Int32)), (.int (Int32.ofNat f)), (.int (Int32.ofNat (f + tm)))]) rfl (rest := []) rfl rfl (W := 0) rfl (by decide) (by decide) (by decide) (by decide) at_163 (pc' := 166) rfl (k' := 1) rfl (n' := 6) rfl ?_
  obtain ⟨s3x, hs3⟩ : ∃ n, own_fd s2x (own_cls b2) 2 f (f + tm) = n := ⟨_, rfl⟩
  have s5 : s3x ≤ 5 := hs3 ▸ own_fd5 _ _ _ _ s5
  refine castI (show (Int32.ofNat (own_fd s2x (own_cls b2) 2 f (f + tm))) = (Int32.ofNat s3x) from congrArg Int32.ofNat hs3) ?_
  refine C.istore at_166 (ls' := #[.val (.long sel), .second, .val (.long raw), .second, .val (.int fi), .val (.int ti), .val (.ref o2), .val (.int (Int32.ofNat f)), .val (.int (Int32.ofNat (f + tm))), .val (.int (Int32.ofNat s3x)), .val (.int (own_ri r2x))]) rfl (pc' := 168) rfl ?_
  refine C.iload at_168 rfl (pc' := 170) rfl ?_
  refine C.iconst at_170 (v := 5) rfl (pc' := 171) rfl ?_
  obtain ⟨r3x, hr3⟩ : ∃ n, own_up s3x r2x 2 = n := ⟨_, rfl⟩
  suffices t182 : G h15 1 6 182 #[.val (.long sel), .second, .val (.long raw), .second, .val (.int fi), .val (.int ti), .val (.ref o2), .val (.int (Int32.ofNat f)), .val (.int (Int32.ofNat (f + tm))), .val (.int (Int32.ofNat s3x)), .val (.int (own_ri r3x))] [] by
    refine C.icmp_ne at_171 (by decide) (pc1 := 182) rfl (pc2 := 174) rfl (fun h1 => ?_) (fun h1 => ?_)
    · rw [show r3x = r2x from by rw [← hr3]; unfold own_up; rw [if_neg (fun z => h1 ((own_eq (i := s3x) (j := 5) (by omega) (by decide)).mpr z.1))]] at t182
      exact t182
    · have h1' : s3x = 5 := (own_eq (i := s3x) (j := 5) (by omega) (by decide)).mp h1
      refine C.iload at_174 rfl (pc' := 176) rfl ?_
      refine C.if_ge at_176 (by decide) (pc1 := 182) rfl (pc2 := 179) rfl (fun h2 => ?_) (fun h2 => ?_)
      · rw [show r3x = r2x from by rw [← hr3]; unfold own_up; rw [if_neg (fun z => h2 ((own_ri0 r7).mpr z.2))]] at t182
        exact t182
      · refine C.iconst at_179 (v := 3) rfl (pc' := 180) rfl ?_
        refine C.istore at_180 (ls' := #[.val (.long sel), .second, .val (.long raw), .second, .val (.int fi), .val (.int ti), .val (.ref o2), .val (.int (Int32.ofNat f)), .val (.int (Int32.ofNat (f + tm))), .val (.int (Int32.ofNat s3x)), .val (.int (3 : Int32))]) rfl (pc' := 182) rfl ?_
        rw [show r3x = 3 from by rw [← hr3]; unfold own_up; rw [if_pos ⟨h1', (own_ri0 r7).mp h2⟩]] at t182
        exact t182
  have r7 : r3x < 100 := by rw [← hr3]; unfold own_up; split <;> omega
  refine C.iload at_182 rfl (pc' := 184) rfl ?_
  refine C.aload at_184 rfl (pc' := 186) rfl ?_
  refine C.iconst at_186 (v := 3) rfl (pc' := 187) rfl ?_
  refine C.iload at_187 rfl (pc' := 189) rfl ?_
  refine C.iload at_189 rfl (pc' := 191) rfl ?_
  refine C.callSP (c_feed l Z a0 hw [] n0 h15 o2 _ s3x 3 f (f + tm) b3 V_o2 s5 (by decide) hf7 (by omega) rfl) (i1 := 7) (i2 := 8) (i3 := 3) (i4 := 9) rfl rfl rfl rfl (by decide) pd_2 rfl (argsL := [(.int (Int32.ofNat s3x)), (.ref o2), (.int (3 : Int32)), (.int (Int32.ofNat f)), (.int (Int32.ofNat (f + tm)))]) rfl (rest := []) rfl rfl (W := 0) rfl (by decide) (by decide) (by decide) (by decide) at_191 (pc' := 194) rfl (k' := 1) rfl (n' := 6) rfl ?_
  obtain ⟨s4x, hs4⟩ : ∃ n, own_fd s3x (own_cls b3) 3 f (f + tm) = n := ⟨_, rfl⟩
  have s5 : s4x ≤ 5 := hs4 ▸ own_fd5 _ _ _ _ s5
  refine castI (show (Int32.ofNat (own_fd s3x (own_cls b3) 3 f (f + tm))) = (Int32.ofNat s4x) from congrArg Int32.ofNat hs4) ?_
  refine C.istore at_194 (ls' := #[.val (.long sel), .second, .val (.long raw), .second, .val (.int fi), .val (.int ti), .val (.ref o2), .val (.int (Int32.ofNat f)), .val (.int (Int32.ofNat (f + tm))), .val (.int (Int32.ofNat s4x)), .val (.int (own_ri r3x))]) rfl (pc' := 196) rfl ?_
  refine C.iload at_196 rfl (pc' := 198) rfl ?_
  refine C.iconst at_198 (v := 5) rfl (pc' := 199) rfl ?_
  obtain ⟨r4x, hr4⟩ : ∃ n, own_up s4x r3x 3 = n := ⟨_, rfl⟩
  suffices t210 : G h15 1 6 210 #[.val (.long sel), .second, .val (.long raw), .second, .val (.int fi), .val (.int ti), .val (.ref o2), .val (.int (Int32.ofNat f)), .val (.int (Int32.ofNat (f + tm))), .val (.int (Int32.ofNat s4x)), .val (.int (own_ri r4x))] [] by
    refine C.icmp_ne at_199 (by decide) (pc1 := 210) rfl (pc2 := 202) rfl (fun h1 => ?_) (fun h1 => ?_)
    · rw [show r4x = r3x from by rw [← hr4]; unfold own_up; rw [if_neg (fun z => h1 ((own_eq (i := s4x) (j := 5) (by omega) (by decide)).mpr z.1))]] at t210
      exact t210
    · have h1' : s4x = 5 := (own_eq (i := s4x) (j := 5) (by omega) (by decide)).mp h1
      refine C.iload at_202 rfl (pc' := 204) rfl ?_
      refine C.if_ge at_204 (by decide) (pc1 := 210) rfl (pc2 := 207) rfl (fun h2 => ?_) (fun h2 => ?_)
      · rw [show r4x = r3x from by rw [← hr4]; unfold own_up; rw [if_neg (fun z => h2 ((own_ri0 r7).mpr z.2))]] at t210
        exact t210
      · refine C.iconst at_207 (v := 4) rfl (pc' := 208) rfl ?_
        refine C.istore at_208 (ls' := #[.val (.long sel), .second, .val (.long raw), .second, .val (.int fi), .val (.int ti), .val (.ref o2), .val (.int (Int32.ofNat f)), .val (.int (Int32.ofNat (f + tm))), .val (.int (Int32.ofNat s4x)), .val (.int (4 : Int32))]) rfl (pc' := 210) rfl ?_
        rw [show r4x = 4 from by rw [← hr4]; unfold own_up; rw [if_pos ⟨h1', (own_ri0 r7).mp h2⟩]] at t210
        exact t210
  have r7 : r4x < 100 := by rw [← hr4]; unfold own_up; split <;> omega
  refine C.iload at_210 rfl (pc' := 212) rfl ?_
  refine C.aload at_212 rfl (pc' := 214) rfl ?_
  refine C.iconst at_214 (v := 4) rfl (pc' := 215) rfl ?_
  refine C.iload at_215 rfl (pc' := 217) rfl ?_
  refine C.iload at_217 rfl (pc' := 219) rfl ?_
  refine C.callSP (c_feed l Z a0 hw [] n0 h15 o2 _ s4x 4 f (f + tm) b4 V_o2 s5 (by decide) hf7 (by omega) rfl) (i1 := 7) (i2 := 8) (i3 := 3) (i4 := 9) rfl rfl rfl rfl (by decide) pd_2 rfl (argsL := [(.int (Int32.ofNat s4x)), (.ref o2), (.int (4 : Int32)), (.int (Int32.ofNat f)), (.int (Int32.ofNat (f + tm)))]) rfl (rest := []) rfl rfl (W := 0) rfl (by decide) (by decide) (by decide) (by decide) at_219 (pc' := 222) rfl (k' := 1) rfl (n' := 6) rfl ?_
  obtain ⟨s5x, hs5⟩ : ∃ n, own_fd s4x (own_cls b4) 4 f (f + tm) = n := ⟨_, rfl⟩
  have s5 : s5x ≤ 5 := hs5 ▸ own_fd5 _ _ _ _ s5
  refine castI (show (Int32.ofNat (own_fd s4x (own_cls b4) 4 f (f + tm))) = (Int32.ofNat s5x) from congrArg Int32.ofNat hs5) ?_
  refine C.istore at_222 (ls' := #[.val (.long sel), .second, .val (.long raw), .second, .val (.int fi), .val (.int ti), .val (.ref o2), .val (.int (Int32.ofNat f)), .val (.int (Int32.ofNat (f + tm))), .val (.int (Int32.ofNat s5x)), .val (.int (own_ri r4x))]) rfl (pc' := 224) rfl ?_
  refine C.iload at_224 rfl (pc' := 226) rfl ?_
  refine C.iconst at_226 (v := 5) rfl (pc' := 227) rfl ?_
  obtain ⟨r5x, hr5⟩ : ∃ n, own_up s5x r4x 4 = n := ⟨_, rfl⟩
  suffices t238 : G h15 1 6 238 #[.val (.long sel), .second, .val (.long raw), .second, .val (.int fi), .val (.int ti), .val (.ref o2), .val (.int (Int32.ofNat f)), .val (.int (Int32.ofNat (f + tm))), .val (.int (Int32.ofNat s5x)), .val (.int (own_ri r5x))] [] by
    refine C.icmp_ne at_227 (by decide) (pc1 := 238) rfl (pc2 := 230) rfl (fun h1 => ?_) (fun h1 => ?_)
    · rw [show r5x = r4x from by rw [← hr5]; unfold own_up; rw [if_neg (fun z => h1 ((own_eq (i := s5x) (j := 5) (by omega) (by decide)).mpr z.1))]] at t238
      exact t238
    · have h1' : s5x = 5 := (own_eq (i := s5x) (j := 5) (by omega) (by decide)).mp h1
      refine C.iload at_230 rfl (pc' := 232) rfl ?_
      refine C.if_ge at_232 (by decide) (pc1 := 238) rfl (pc2 := 235) rfl (fun h2 => ?_) (fun h2 => ?_)
      · rw [show r5x = r4x from by rw [← hr5]; unfold own_up; rw [if_neg (fun z => h2 ((own_ri0 r7).mpr z.2))]] at t238
        exact t238
      · refine C.iconst at_235 (v := 5) rfl (pc' := 236) rfl ?_
        refine C.istore at_236 (ls' := #[.val (.long sel), .second, .val (.long raw), .second, .val (.int fi), .val (.int ti), .val (.ref o2), .val (.int (Int32.ofNat f)), .val (.int (Int32.ofNat (f + tm))), .val (.int (Int32.ofNat s5x)), .val (.int (5 : Int32))]) rfl (pc' := 238) rfl ?_
        rw [show r5x = 5 from by rw [← hr5]; unfold own_up; rw [if_pos ⟨h1', (own_ri0 r7).mp h2⟩]] at t238
        exact t238
  have r7 : r5x < 100 := by rw [← hr5]; unfold own_up; split <;> omega
  refine C.iload at_238 rfl (pc' := 240) rfl ?_
  refine C.aload at_240 rfl (pc' := 242) rfl ?_
  refine C.iconst at_242 (v := 5) rfl (pc' := 243) rfl ?_
  refine C.iload at_243 rfl (pc' := 245) rfl ?_
  refine C.iload at_245 rfl (pc' := 247) rfl ?_
  refine C.callSP (c_feed l Z a0 hw [] n0 h15 o2 _ s5x 5 f (f + tm) b5 V_o2 s5 (by decide) hf7 (by omega) rfl) (i1 := 7) (i2 := 8) (i3 := 3) (i4 := 9) rfl rfl rfl rfl (by decide) pd_2 rfl (argsL := [(.int (Int32.ofNat s5x)), (.ref o2), (.int (5 : Int32)), (.int (Int32.ofNat f)), (.int (Int32.ofNat (f + tm)))]) rfl (rest := []) rfl rfl (W := 0) rfl (by decide) (by decide) (by decide) (by decide) at_247 (pc' := 250) rfl (k' := 1) rfl (n' := 6) rfl ?_
  obtain ⟨s6x, hs6⟩ : ∃ n, own_fd s5x (own_cls b5) 5 f (f + tm) = n := ⟨_, rfl⟩
  have s5 : s6x ≤ 5 := hs6 ▸ own_fd5 _ _ _ _ s5
  refine castI (show (Int32.ofNat (own_fd s5x (own_cls b5) 5 f (f + tm))) = (Int32.ofNat s6x) from congrArg Int32.ofNat hs6) ?_
  refine C.istore at_250 (ls' := #[.val (.long sel), .second, .val (.long raw), .second, .val (.int fi), .val (.int ti), .val (.ref o2), .val (.int (Int32.ofNat f)), .val (.int (Int32.ofNat (f + tm))), .val (.int (Int32.ofNat s6x)), .val (.int (own_ri r5x))]) rfl (pc' := 252) rfl ?_
  refine C.iload at_252 rfl (pc' := 254) rfl ?_
  refine C.iconst at_254 (v := 5) rfl (pc' := 255) rfl ?_
  obtain ⟨r6x, hr6⟩ : ∃ n, own_up s6x r5x 5 = n := ⟨_, rfl⟩
  suffices t267 : G h15 1 6 267 #[.val (.long sel), .second, .val (.long raw), .second, .val (.int fi), .val (.int ti), .val (.ref o2), .val (.int (Int32.ofNat f)), .val (.int (Int32.ofNat (f + tm))), .val (.int (Int32.ofNat s6x)), .val (.int (own_ri r6x))] [] by
    refine C.icmp_ne at_255 (by decide) (pc1 := 267) rfl (pc2 := 258) rfl (fun h1 => ?_) (fun h1 => ?_)
    · rw [show r6x = r5x from by rw [← hr6]; unfold own_up; rw [if_neg (fun z => h1 ((own_eq (i := s6x) (j := 5) (by omega) (by decide)).mpr z.1))]] at t267
      exact t267
    · have h1' : s6x = 5 := (own_eq (i := s6x) (j := 5) (by omega) (by decide)).mp h1
      refine C.iload at_258 rfl (pc' := 260) rfl ?_
      refine C.if_ge at_260 (by decide) (pc1 := 267) rfl (pc2 := 263) rfl (fun h2 => ?_) (fun h2 => ?_)
      · rw [show r6x = r5x from by rw [← hr6]; unfold own_up; rw [if_neg (fun z => h2 ((own_ri0 r7).mpr z.2))]] at t267
        exact t267
      · refine C.bipush at_263 (v := 6) rfl (pc' := 265) rfl ?_
        refine C.istore at_265 (ls' := #[.val (.long sel), .second, .val (.long raw), .second, .val (.int fi), .val (.int ti), .val (.ref o2), .val (.int (Int32.ofNat f)), .val (.int (Int32.ofNat (f + tm))), .val (.int (Int32.ofNat s6x)), .val (.int (6 : Int32))]) rfl (pc' := 267) rfl ?_
        rw [show r6x = 6 from by rw [← hr6]; unfold own_up; rw [if_pos ⟨h1', (own_ri0 r7).mp h2⟩]] at t267
        exact t267
  have r7 : r6x < 100 := by rw [← hr6]; unfold own_up; split <;> omega
  refine C.aload at_267 rfl (pc' := 269) rfl ?_
  refine C.iload at_269 rfl (pc' := 271) rfl ?_
  refine C.iload at_271 rfl (pc' := 273) rfl ?_
  refine C.callSP (c_end l Z a0 hw [] n0 h15 o2 [b0, b1, b2, b3, b4, b5] f (f + tm) V_o2 (by omega) (by omega) (by show f + tm ≤ 6; omega)) (i1 := 13) (i2 := 14) (i3 := 15) (i4 := 16) rfl rfl rfl rfl (by decide) pd_3 rfl (argsL := [(.ref o2), (.int (Int32.ofNat f)), (.int (Int32.ofNat (f + tm)))]) rfl (rest := []) rfl rfl (W := 0) rfl (by decide) (by decide) (by decide) (by decide) at_273 (pc' := 276) rfl (k' := 1) rfl (n' := 6) rfl ?_
  refine C.iload at_276 rfl (pc' := 278) rfl ?_
  have fin : own_end (fun p => own_cls ([b0, b1, b2, b3, b4, b5].getD p 0)) f (f + tm) = r6x := by
    rw [own_pk]
    have d := own_dec ⟨f, hf7⟩ ⟨tm, by omega⟩ (by show f + tm ≤ 6; omega) ⟨_, own_cls3 b0⟩ ⟨_, own_cls3 b1⟩ ⟨_, own_cls3 b2⟩ ⟨_, own_cls3 b3⟩ ⟨_, own_cls3 b4⟩ ⟨_, own_cls3 b5⟩
    dsimp only at d
    rw [d]
    subst hs1 hr1 hs2 hr2 hs3 hr3 hs4 hr4 hs5 hr5 hs6 hr6
    rfl
  refine C.icmp_ne_F at_278 (congrArg own_ri fin) (pc' := 281) rfl ?_
  refine C.iconst at_281 (v := 1) rfl (pc' := 282) rfl ?_
  refine C.goto at_282 (by decide) (pc' := 286) rfl ?_
  exact C.nreturn (b := (1 : Int32)) at_286 rfl (by simp) (by decide) (by decide) rfl rfl
set_option maxRecDepth 65536 in
set_option maxHeartbeats 4000000 in
theorem comes_1 {Post : Tables → Env → Array Value → State → Outcome → State → Prop} (hpost : ∀ tb e args s v u, (limb_1_1.after args s (.returned v) u = true ∧ limb_1_2.after args s (.returned v) u = true ∧ True) → FrameEnd s (.returned v) u (Jvm.fieldLocs frame_1_writes args s ++ Jvm.arrayLocs frame_1_arrays args s ++ Jvm.staticLocs frame_1_statics s) 16 128 → Post tb e args s (.returned v) u) :
    ArmFor flags0 classFile x code maxLocals ret World_1 tables_1 room_1 Calls_1 rest_1 Pre_1 Post := by
  intro l hfl _ _ p e ha hc hk s m args below hf hA hF happ hP
  obtain ⟨hcalls, hrest, hpre⟩ := hP
  obtain ⟨-, -, -, hnamed, -, -, -, hat⟩ := (Spec.applies_iff hf).mp happ
  obtain ⟨hg, hn⟩ := and_e (Cond.before_iff.mp (show (Jvm.Cond.and given_1 narrow_1).before args s = true from hpre))
  obtain ⟨hcount, hb0⟩ := and_e hg
  obtain ⟨ha0, hb1⟩ := and_e hb0
  obtain ⟨ha1, hb2⟩ := and_e hb1
  obtain ⟨ha2, hb3⟩ := and_e hb2
  obtain ⟨w0, w1, w2, w3, rfl⟩ : ∃ w0 w1 w2 w3 : Value, args = #[w0, w1, w2, w3] := by
    have hs : args.size = 4 := by simpa [Cond.value, given_1] using hcount
    obtain ⟨L⟩ := args
    match L, hs with
    | [w0, w1, w2, w3], _ => exact ⟨w0, w1, w2, w3, rfl⟩
  have hw := fun d (hd : d ∈ tables_1) => atoms_spec (ws := Jvm.Cond.code x code maxLocals ret :: tables_1) hat d (List.mem_cons_of_mem _ hd)
  obtain ⟨i0, e0⟩ := isL_v ha0
  obtain rfl : w0 = (.long i0) := Option.some.inj e0
  obtain ⟨i1, e1⟩ := isL_v ha1
  obtain rfl : w1 = (.long i1) := Option.some.inj e1
  obtain ⟨i2, e2⟩ := is_v ha2
  obtain rfl : w2 = (.int i2) := Option.some.inj e2
  obtain ⟨i3, e3⟩ := is_v hb3
  obtain rfl : w3 = (.int i3) := Option.some.inj e3
  obtain ⟨n, o, h1, h2, h3, _, L, rfl, ⟨rfl, N⟩, hq⟩ := c_law l s _ hw tables_1 s.heap.size s.heap i0 i1 i2 i3 (Nat.le_refl _) p e ha hc hk s m _ below hf ((Spec.applies_iff_loose hf).mp happ).1 ⟨rfl, State.Warmed39.refl s, rfl⟩ trivial
  refine ⟨n, _, h1, h2, h3, hpost _ _ _ _ _ _ ⟨Cond.after_iff.mpr rfl, Cond.after_iff.mpr (eq_i res_at (Term.int_eval (1)) rfl), trivial⟩ ⟨hq.1, hq.2.1, (hq.2.2.sift fun y hy => Or.inr (N y hy)).mono (by decide) (by decide)⟩⟩
theorem main_1_1 : Claimed_1_1 := comes_1 fun _ _ _ _ _ _ h hF => ⟨h.1, hF⟩
theorem main_1_2 : Claimed_1_2 := comes_1 fun _ _ _ _ _ _ h hF => ⟨h.2.1, hF⟩
end Jvm.Pilot.@@N@@
namespace Jvm.Pilot.@@N@@
open Jvm Jvm.ClassFile Sem Op Lib Jvm.Free Jvm.Stand Jvm.Pilot.@@N@@.Jvm.D
/-! MADE BY PROGRAM (witnessworld.py) out of the Statement's table words and the real class files: 9 classes; the members and pool entries that the words name. The judged class is class 1, her method 4. -/
namespace start1
open Jvm.ClassFile
def u (s : String) : CpInfo := .utf8 (stringToUtf16 s)
/-- a pool by its gaps: so many unusable entries, then the entry; so many at the end -/
def gap : Nat → List CpInfo → List CpInfo
  | 0, r => r
  | n + 1, r => .unusable :: gap n r
def poolList (es : List (Nat × CpInfo)) (last : Nat) : List CpInfo := es.foldr (fun e r => gap e.1 (e.2 :: r)) (gap last [])
def pool (es : List (Nat × CpInfo)) (last : Nat) : Array CpInfo := ⟨poolList es last⟩
def fileOf (pool : Array CpInfo) (this : Nat) (attrs : Array Attribute := #[]) (ms : Array MethodInfo := #[]) (fl : Nat := 33) (sup : Nat := 0) (ifs : Array Nat := #[]) (fds : Array FieldInfo := #[]) : ClassFile where
  minorVersion := 0
  majorVersion := 65
  constantPool := pool
  accessFlags := fl
  thisClass := this
  superClass := sup
  interfaces := ifs
  fields := fds
  methods := ms
  attributes := attrs
def plain (name : String) (sup : Option ClassId) : Class where
  name := name
  kind := .ordinary
  loader := none
  accessFlags := 33
  super := sup
  interfaces := #[]
  cf := none
  fields := #[]
  methods := #[]
  instanceTypes := #[]
  staticTypes := #[]
  resolved := #[]
  callSites := []
  init := .initialized
  statics := none
  mirror := none

def pool0 : Array CpInfo := pool [(5, u "<init>"), (0, u "()V"), (1, .class_ 10), (1, u "java/lang/Object")] 113

def k0m0 : Method := { name := "<init>", desc := "()V", sig := { parameters := [], returnType := none }, accessFlags := 1, code := none }
/-- java/lang/Object -/
def k0 : Class := { plain "java/lang/Object" none with
  accessFlags := 33
  interfaces := #[]
  cf := some (fileOf pool0 8 #[] #[{ accessFlags := 1, nameIndex := 5, descriptorIndex := 6, attributes := #[] }] 33 0 #[] #[])
  fields := #[]
  methods := #[k0m0]
  instanceTypes := #[]
  staticTypes := #[]
  resolved := Array.replicate 124 none
  statics := none }

def pool1 : Array CpInfo := pool [(2, .class_ 4), (1, u "java/lang/Object"), (0, u "<init>"), (0, u "()V"), (0, .long 3), (1, .methodref 10 11), (0, .class_ 12), (0, .nameAndType 13 14), (0, u "com/example/slotwright/slotwright/serve/HttpHeadEndPinLaw"), (0, u "step"), (0, u "(IB)I"), (0, .methodref 10 16), (0, .nameAndType 17 18), (0, u "pick"), (0, u "(JJI)B"), (0, .integer 2147483647), (0, .methodref 10 21), (0, .nameAndType 22 23), (0, u "feed"), (0, u "(I[BIII)I"), (0, .methodref 25 26), (0, .class_ 27), (0, .nameAndType 28 29), (0, u "com/example/slotwright/slotwright/serve/HttpHead"), (0, u "end"), (0, u "([BII)I"), (3, u "law"), (0, u "(JJII)Z")] 4

def k1m0 : Method := { name := "<init>", desc := "()V", sig := { parameters := [], returnType := none }, accessFlags := 1, code := none }
def k1c1 : Code := { maxStack := 4, maxLocals := 6, code := method_2_code, exceptionTable := #[], attributes := #[] }
def k1m1 : Method := { name := "pick", desc := "(JJI)B", sig := { parameters := [.long, .long, .int], returnType := some .byte }, accessFlags := 10, code := some k1c1 }
def k1c2 : Code := { maxStack := 2, maxLocals := 4, code := method_3_code, exceptionTable := #[], attributes := #[] }
def k1m2 : Method := { name := "step", desc := "(IB)I", sig := { parameters := [.int, .byte], returnType := some .int }, accessFlags := 10, code := some k1c2 }
def k1c3 : Code := { maxStack := 3, maxLocals := 5, code := method_4_code, exceptionTable := #[], attributes := #[] }
def k1m3 : Method := { name := "feed", desc := "(I[BIII)I", sig := { parameters := [.int, (.array .byte), .int, .int, .int], returnType := some .int }, accessFlags := 10, code := some k1c3 }
def k1c4 : Code := { maxStack := 7, maxLocals := 11, code := code, exceptionTable := #[], attributes := #[] }
def k1m4 : Method := { name := "law", desc := "(JJII)Z", sig := { parameters := [.long, .long, .int, .int], returnType := some .boolean }, accessFlags := 9, code := some k1c4 }
/-- com/example/slotwright/slotwright/serve/HttpHeadEndPinLaw -/
def k1 : Class := { plain "com/example/slotwright/slotwright/serve/HttpHeadEndPinLaw" (some 0) with
  accessFlags := 49
  interfaces := #[]
  cf := some (fileOf pool1 10 #[] #[{ accessFlags := 1, nameIndex := 5, descriptorIndex := 6, attributes := #[] }, { accessFlags := 10, nameIndex := 17, descriptorIndex := 18, attributes := #[] }, { accessFlags := 10, nameIndex := 13, descriptorIndex := 14, attributes := #[] }, { accessFlags := 10, nameIndex := 22, descriptorIndex := 23, attributes := #[] }, { accessFlags := 9, nameIndex := 33, descriptorIndex := 34, attributes := #[] }] 49 2 #[] #[])
  fields := #[]
  methods := #[k1m0, k1m1, k1m2, k1m3, k1m4]
  instanceTypes := #[]
  staticTypes := #[]
  resolved := Array.replicate 39 none
  statics := none }

def pool2 : Array CpInfo := pool [(2, .class_ 4), (1, u "java/lang/Object"), (3, .class_ 10), (1, u "com/example/slotwright/slotwright/serve/HttpHead"), (0, u "method"), (0, u "Ljava/lang/String;"), (2, u "path"), (2, u "length"), (0, u "J"), (2, u "expectsContinue"), (0, u "Z"), (2, u "closes"), (210, u "HOST"), (0, u "Ljava/util/regex/Pattern;"), (20, u "FUTURE_ADDRESS"), (37, u "IPV4_ADDRESS"), (85, u "MOST_BYTES"), (0, u "I"), (2, u "NAME_CHARACTER"), (2, u "OCTET"), (4, u "end"), (0, u "([BII)I")] 86

def k2c0 : Code := { maxStack := 3, maxLocals := 7, code := prog_238_method_2_code, exceptionTable := #[], attributes := #[] }
def k2m0 : Method := { name := "end", desc := "([BII)I", sig := { parameters := [(.array .byte), .int, .int], returnType := some .int }, accessFlags := 8, code := some k2c0 }
/-- com/example/slotwright/slotwright/serve/HttpHead -/
def k2 : Class := { plain "com/example/slotwright/slotwright/serve/HttpHead" (some 0) with
  accessFlags := 48
  interfaces := #[]
  cf := some (fileOf pool2 8 #[] #[{ accessFlags := 8, nameIndex := 395, descriptorIndex := 396, attributes := #[] }] 48 2 #[] #[{ accessFlags := 24, nameIndex := 383, descriptorIndex := 384, attributes := #[] }, { accessFlags := 26, nameIndex := 387, descriptorIndex := 12, attributes := #[] }, { accessFlags := 26, nameIndex := 237, descriptorIndex := 238, attributes := #[] }, { accessFlags := 26, nameIndex := 259, descriptorIndex := 238, attributes := #[] }, { accessFlags := 26, nameIndex := 390, descriptorIndex := 12, attributes := #[] }, { accessFlags := 26, nameIndex := 297, descriptorIndex := 238, attributes := #[] }, { accessFlags := 18, nameIndex := 11, descriptorIndex := 12, attributes := #[] }, { accessFlags := 18, nameIndex := 15, descriptorIndex := 12, attributes := #[] }, { accessFlags := 18, nameIndex := 18, descriptorIndex := 19, attributes := #[] }, { accessFlags := 18, nameIndex := 22, descriptorIndex := 23, attributes := #[] }, { accessFlags := 18, nameIndex := 26, descriptorIndex := 23, attributes := #[] }])
  fields := #[{ name := "MOST_BYTES", type := .int, accessFlags := 24, slot := 0, constantValue := 0 }, { name := "NAME_CHARACTER", type := (.object "java/lang/String"), accessFlags := 26, slot := 1, constantValue := 0 }, { name := "HOST", type := (.object "java/util/regex/Pattern"), accessFlags := 26, slot := 2, constantValue := 0 }, { name := "FUTURE_ADDRESS", type := (.object "java/util/regex/Pattern"), accessFlags := 26, slot := 3, constantValue := 0 }, { name := "OCTET", type := (.object "java/lang/String"), accessFlags := 26, slot := 4, constantValue := 0 }, { name := "IPV4_ADDRESS", type := (.object "java/util/regex/Pattern"), accessFlags := 26, slot := 5, constantValue := 0 }, { name := "method", type := (.object "java/lang/String"), accessFlags := 18, slot := 0, constantValue := 0 }, { name := "path", type := (.object "java/lang/String"), accessFlags := 18, slot := 1, constantValue := 0 }, { name := "length", type := .long, accessFlags := 18, slot := 2, constantValue := 0 }, { name := "expectsContinue", type := .boolean, accessFlags := 18, slot := 3, constantValue := 0 }, { name := "closes", type := .boolean, accessFlags := 18, slot := 4, constantValue := 0 }]
  methods := #[k2m0]
  instanceTypes := #[(.object "java/lang/String"), (.object "java/lang/String"), .long, .boolean, .boolean]
  staticTypes := #[.int, (.object "java/lang/String"), (.object "java/util/regex/Pattern"), (.object "java/util/regex/Pattern"), (.object "java/lang/String"), (.object "java/util/regex/Pattern")]
  resolved := Array.replicate 483 none
  statics := none }

def pool3 : Array CpInfo := pool [(1, u "java/lang/Cloneable"), (0, .class_ 1), (0, u "java/lang/Object"), (0, .class_ 3)] 3

/-- java/lang/Cloneable -/
def k3 : Class := { plain "java/lang/Cloneable" (some 0) with
  accessFlags := 1537
  interfaces := #[]
  cf := some (fileOf pool3 2 #[] #[] 1537 4 #[] #[])
  fields := #[]
  methods := #[]
  instanceTypes := #[]
  staticTypes := #[]
  resolved := Array.replicate 8 none
  statics := none }

def pool4 : Array CpInfo := pool [(1, u "java/io/Serializable"), (0, .class_ 1), (0, u "java/lang/Object"), (0, .class_ 3)] 3

/-- java/io/Serializable -/
def k4 : Class := { plain "java/io/Serializable" (some 0) with
  accessFlags := 1537
  interfaces := #[]
  cf := some (fileOf pool4 2 #[] #[] 1537 4 #[] #[])
  fields := #[]
  methods := #[]
  instanceTypes := #[]
  staticTypes := #[]
  resolved := Array.replicate 8 none
  statics := none }

/-- the primitive byte -/
def k5 : Class := { plain "byte" none with kind := .primitive 'B', accessFlags := 0x411 }
/-- [B -/
def k6 : Class := { plain "[B" (some 0) with kind := .array 5 .byte, interfaces := #[3, 4], accessFlags := 1041 }

/-- the primitive int -/
def k7 : Class := { plain "int" none with kind := .primitive 'I', accessFlags := 0x411 }
/-- [I -/
def k8 : Class := { plain "[I" (some 0) with kind := .array 7 .int, interfaces := #[3, 4], accessFlags := 1041 }

def heap : Heap := #[]
def classes : Array Class := #[k0, k1, k2, k3, k4, k5, k6, k7, k8]
def interned : List (Array UInt16 × Addr) := []
def slotsUsed : Nat := 0
def theMethod : MethodId := ⟨1, 4⟩
def args0 : Array Value := #[.long 1234567, .long 7654321, .int 1, .int 3]
def aboutOver (below : List Frame) : State where
  vm := { classes := classes, interned := interned.toArray }
  heap := heap
  slotsUsed := slotsUsed
  threads := #[{ frames := .invoking theMethod args0 :: below }]
def below0 : List Frame := [.native { method := ⟨0, 0⟩, args := #[] }]
def about1 : State := aboutOver below0
def p0 : Program := .bare "" "" ""
def e0 : Env := launch0.env 0 0 0
theorem w_frames : about1.frames = Frame.invoking theMethod args0 :: below0 := rfl
set_option maxRecDepth 65536 in
theorem w_args : argsFit about1.vm theMethod args0 = true := by decide +kernel
set_option maxRecDepth 65536 in
theorem w_heap : heapFits about1 = true := by decide +kernel
set_option maxRecDepth 65536 in
theorem w_runnable : about1.curStatus? = some .runnable := by decide +kernel
set_option maxRecDepth 65536 in
theorem w_alone : about1.alone = true := by decide +kernel
set_option maxRecDepth 65536 in
theorem w_named : about1.methodNamed? x = some theMethod := by decide +kernel
set_option maxRecDepth 65536 in
theorem w_hears : about1.hears theMethod below0 = true := by decide +kernel
set_option maxRecDepth 65536 in
theorem w_ripe : about1.ripe theMethod args0 below0 = true := by decide +kernel
theorem w_running : about1.status = .running := rfl
set_option maxRecDepth 65536 in
theorem w_room : about1.hasRoom e0.platform room_1 = true :=
  launch0.hasRoom_least _ room_1 (by decide +kernel) (by decide +kernel) (by decide +kernel) (by decide +kernel) (by decide +kernel) (by decide +kernel)
theorem allAtoms_all (ts : List Jvm.Cond) (a : Array Jvm.Value) (st : Jvm.State) : (allAtoms ts).before a st = ts.all (fun c => c.before a st) := by
  induction ts with
  | nil => rfl
  | cons c t ih =>
    show (Jvm.Cond.and c (allAtoms t)).before a st = _
    rw [Jvm.Cond.before_and, ih, List.all_cons]
def words1 : List Jvm.Cond := Jvm.Cond.code x code maxLocals ret :: tables_1
/-- a 'code' word, met by the world's own term for the bytes: nothing is compared byte by byte -/
theorem code_word {y : MethodName} {bytes : ByteArray} {mx : Nat} {rt : Option FieldType} {a : Array Value} {s : State} {m : MethodId} {meth : Method} {c : Code} (h1 : s.methodNamed? y = some m) (h2 : s.vm.method? m = some meth) (h3 : meth.code = some c) (h4 : c.code = bytes)
    (h5 : (c.maxLocals == mx && c.exceptionTable.isEmpty && decide (c.maxStack ≤ mostOperands) && decide (meth.sig.returnType = rt) && !meth.locks && decide (parseMethodDescriptor y.desc = some meth.sig)) = true) : (Jvm.Cond.code y bytes mx rt).before a s = true := by
  simp only [Bool.and_eq_true, beq_iff_eq, Bool.not_eq_true', decide_eq_true_eq] at h5
  obtain ⟨⟨⟨⟨⟨g1, g2⟩, g3⟩, g4⟩, g5⟩, g6⟩ := h5
  simp [Cond.before, Cond.holds, Cond.value, h1, h2, h3, h4, g1, g2, g3, g4, g5, g6]
def isCode : Jvm.Cond → Bool
  | .code _ _ _ _ => true
  | _ => false
theorem all_split {L : List Jvm.Cond} {P : Jvm.Cond → Bool} (h1 : L.all (fun c => isCode c || P c) = true) (h2 : ∀ c ∈ L.filter isCode, P c = true) : L.all P = true := by
  refine List.all_eq_true.mpr fun c hc => ?_
  have h := List.all_eq_true.mp h1 c hc
  rcases Bool.eq_false_or_eq_true (isCode c) with hi | hi
  · exact h2 c (List.mem_filter.mpr ⟨hc, hi⟩)
  · simpa [hi] using h
set_option maxRecDepth 65536 in
theorem w_c0 : (Jvm.Cond.code x code maxLocals ret).before args0 about1 = true := code_word (m := ⟨1, 4⟩) (meth := k1m4) (c := k1c4) (by decide +kernel) rfl rfl rfl (by decide +kernel)
set_option maxRecDepth 65536 in
theorem w_c1 : (Jvm.Cond.code ({ cls := "com/example/slotwright/slotwright/serve/HttpHeadEndPinLaw", name := "pick", desc := "(JJI)B" } : Jvm.MethodName) method_2_code (6 : Nat) (Option.some Jvm.ClassFile.FieldType.byte)).before args0 about1 = true := code_word (m := ⟨1, 1⟩) (meth := k1m1) (c := k1c1) (by decide +kernel) rfl rfl rfl (by decide +kernel)
set_option maxRecDepth 65536 in
theorem w_c2 : (Jvm.Cond.code ({ cls := "com/example/slotwright/slotwright/serve/HttpHeadEndPinLaw", name := "feed", desc := "(I[BIII)I" } : Jvm.MethodName) method_4_code (5 : Nat) (Option.some Jvm.ClassFile.FieldType.int)).before args0 about1 = true := code_word (m := ⟨1, 3⟩) (meth := k1m3) (c := k1c3) (by decide +kernel) rfl rfl rfl (by decide +kernel)
set_option maxRecDepth 65536 in
theorem w_c3 : (Jvm.Cond.code ({ cls := "com/example/slotwright/slotwright/serve/HttpHeadEndPinLaw", name := "step", desc := "(IB)I" } : Jvm.MethodName) method_3_code (4 : Nat) (Option.some Jvm.ClassFile.FieldType.int)).before args0 about1 = true := code_word (m := ⟨1, 2⟩) (meth := k1m2) (c := k1c2) (by decide +kernel) rfl rfl rfl (by decide +kernel)
set_option maxRecDepth 65536 in
theorem w_c4 : (Jvm.Cond.code ({ cls := "com/example/slotwright/slotwright/serve/HttpHead", name := "end", desc := "([BII)I" } : Jvm.MethodName) prog_238_method_2_code (7 : Nat) (Option.some Jvm.ClassFile.FieldType.int)).before args0 about1 = true := code_word (m := ⟨2, 0⟩) (meth := k2m0) (c := k2c0) (by decide +kernel) rfl rfl rfl (by decide +kernel)
def codes1 : List Jvm.Cond := [Jvm.Cond.code x code maxLocals ret, Jvm.Cond.code ({ cls := "com/example/slotwright/slotwright/serve/HttpHeadEndPinLaw", name := "pick", desc := "(JJI)B" } : Jvm.MethodName) method_2_code (6 : Nat) (Option.some Jvm.ClassFile.FieldType.byte), Jvm.Cond.code ({ cls := "com/example/slotwright/slotwright/serve/HttpHeadEndPinLaw", name := "feed", desc := "(I[BIII)I" } : Jvm.MethodName) method_4_code (5 : Nat) (Option.some Jvm.ClassFile.FieldType.int), Jvm.Cond.code ({ cls := "com/example/slotwright/slotwright/serve/HttpHeadEndPinLaw", name := "step", desc := "(IB)I" } : Jvm.MethodName) method_3_code (4 : Nat) (Option.some Jvm.ClassFile.FieldType.int), Jvm.Cond.code ({ cls := "com/example/slotwright/slotwright/serve/HttpHead", name := "end", desc := "([BII)I" } : Jvm.MethodName) prog_238_method_2_code (7 : Nat) (Option.some Jvm.ClassFile.FieldType.int)]
set_option maxRecDepth 65536 in
theorem codes_eq : words1.filter isCode = codes1 := rfl
theorem w_codes : ∀ c ∈ words1.filter isCode, c.before args0 about1 = true := by
  rw [codes_eq]
  intro c hc
  simp only [codes1, List.mem_cons, List.not_mem_nil, or_false] at hc
  rcases hc with rfl | rfl | rfl | rfl | rfl
  · exact w_c0
  · exact w_c1
  · exact w_c2
  · exact w_c3
  · exact w_c4
set_option maxRecDepth 65536 in
theorem w_t1 : words1.all (fun c => isCode c || c.before args0 about1) = true := by decide +kernel
theorem w_tables : (allAtoms (Jvm.Cond.code x code maxLocals ret :: tables_1)).before args0 about1 = true := by
  rw [allAtoms_all]
  show words1.all (fun c => c.before args0 about1) = true
  refine all_split ?_ w_codes
  rw [w_t1]
set_option maxRecDepth 65536 in
theorem w_case : (Jvm.Cond.and given_1 narrow_1).before args0 about1 = true := by decide +kernel
theorem w_applies : (headSpec (Jvm.Cond.code x code maxLocals ret :: tables_1) room_1).applies x e0.platform about1 = true :=
  (Spec.applies_iff w_frames).mpr ⟨w_running, w_runnable, w_alone, w_named, w_hears, w_ripe, w_room, w_tables⟩
theorem atStart : AtStart classFile x code maxLocals ret World_1 tables_1 room_1 Calls_1 rest_1 Pre_1 launch0 p0 e0 about1 theMethod args0 below0 :=
  ⟨lists_1, trivial, launch0.admits_env _ _ _, launch0.least_env, fairChoices_fair.cas, fairChoices_fair.clock, w_frames, w_args, w_heap, w_applies, trivial, trivial, w_case⟩
end start1
theorem witness_1 : WitnessClaimed_1 := ⟨start1.p0, start1.e0, start1.about1, start1.theMethod, start1.args0, start1.below0, start1.atStart⟩
end Jvm.Pilot.@@N@@
