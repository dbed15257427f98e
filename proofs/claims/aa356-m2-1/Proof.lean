import JvmDerived
import JvmDerived.Pilot.@@N@@Statement
import JvmDerived.Pilot.@@N@@Code
set_option linter.unusedVariables false
set_option linter.unusedSimpArgs false
namespace Jvm.GoKit
open Sem ClassFile Op Lib Jvm.Stand Jvm.Free Jvm.LawKit Jvm.RoadKit
abbrev GT := Heap → Nat → Nat → Nat → Array Slot → List Value → Prop
def Ctr (l : Launch) (Z : State) (y : MethodName) (bytes : ByteArray) (maxL : Nat) (ret : Option FieldType) (R : Room) (n0 : Nat) (as : Array Value) (h0 : Heap) (Q : Option Value → Heap → Prop) (wl : List Jvm.Cond) : Prop :=
  MetFree l y (head1 (Jvm.Cond.code y bytes maxL ret :: wl) R) (fun a U => a = as ∧ Z.Warmed39 U.vm ∧ U.heap = h0) (fun _ _ _ _ _ => True)
    (fun _ U o U' => ∃ v L, o = .returned v ∧ (Q v U'.heap ∧ Fr n0 L) ∧ FrameEnd U o U' L R.cells R.slots)
def Go (p : Program) (l : Launch) (e : Env) (R : Room) (s : State) (m : MethodId) (args : Array Value) (below : List Frame) (meth : Method) (c : Code) (n0 : Nat) (Q : Option Value → Heap → Prop) : GT :=
  fun h k n pc ls st => ∀ T locs, Stand p l e R s m args below meth c T locs k n → T.heap = h → Fr n0 locs →
    ∃ s₂ o, Steps p.tables e below (T.setTop (mkF m pc ls st)) s₂ ∧ s₂.status = .running ∧ Ended s₂ below o ∧ ∃ v L, o = .returned v ∧ (Q v s₂.heap ∧ Fr n0 L) ∧ FrameEnd s o s₂ L R.cells R.slots
def Cx (G : GT) (l : Launch) (Z : State) (a0 : Array Value) (ws : List Jvm.Cond) (R : Room) (y : MethodName) (bytes : ByteArray) (maxL : Nat) (ret : Option FieldType) (n0 : Nat) (Q : Option Value → Heap → Prop) : Prop :=
  ∃ p e s m args below meth c, p.tables.exec = Jvm.exec ∧ c.code = bytes ∧ c.maxLocals = maxL ∧ s.vm.findClass y.cls = some m.cls ∧ meth.name = y.name ∧ meth.sig.returnType = ret ∧ meth.locks = false ∧ Z.Warmed39 s.vm ∧ (∀ d ∈ ws, d.before a0 Z = true) ∧ G = Go p l e R s m args below meth c n0 Q
def lay : List Value → List Slot
  | [] => []
  | v :: vs => if v.category = 2 then .val v :: .second :: lay vs else .val v :: lay vs
theorem lay_fold : ∀ (vs : List Value) (acc : Array Slot), vs.foldl (fun (acc : Array Slot) v => if v.category = 2 then (acc.push (.val v)).push .second else acc.push (.val v)) acc = acc ++ (lay vs).toArray
  | [], acc => by simp [lay]
  | v :: vs, acc => by
    rw [List.foldl_cons, lay_fold vs, show lay (v :: vs) = (if v.category = 2 then Slot.val v :: .second :: lay vs else .val v :: lay vs) from rfl]
    split <;> simp
theorem entry_eq (m : MethodId) {as : Array Value} {maxL k : Nat} {L1 : List Slot} {ls : Array Slot} (h1 : lay as.toList = L1) (h2 : L1.length + k = maxL) (h3 : (L1 ++ List.replicate k Slot.unset).toArray = ls) : entryFrame m as maxL = mkF m 0 ls [] := by
  subst h1 h2 h3
  unfold entryFrame argsToLocals
  have e : as.foldl (init := #[]) (fun (acc : Array Slot) v => if v.category = 2 then (acc.push (.val v)).push .second else acc.push (.val v)) = (lay as.toList).toArray := by
    rw [← Array.foldl_toList, lay_fold]; simp
  simp only [e]
  simp [mkF]
theorem Ctr.of {l : Launch} {Z : State} {a0 : Array Value} {ws : List Jvm.Cond} {R : Room} {y : MethodName} {bytes : ByteArray} {maxL : Nat} {ret : Option FieldType} {n0 : Nat} {Q : Option Value → Heap → Prop} {as : Array Value} {h0 : Heap} {wl : List Jvm.Cond} {ls : Array Slot}
    (hn : plainFor y = true) (hw : ∀ d ∈ ws, d.before a0 Z = true) (he : ∀ m, entryFrame m as maxL = mkF m 0 ls []) (H : ∀ G, Cx G l Z a0 ws R y bytes maxL ret n0 Q → G h0 0 0 0 ls []) : Ctr l Z y bytes maxL ret R n0 as h0 Q wl := by
  refine MetFree.of_bodySF hn hisR ?_
  intro p e s m args below meth c s₁ Bd hml0 hP hK
  obtain ⟨rfl, hZ, hh⟩ := hP
  have X0 : Stand p l e R s m args below meth c s₁ [] 0 0 := Stand.of_body Bd
  have e0 : s₁.heap = h0 := by rw [← hh, Bd.state]; rfl
  obtain ⟨s₂, o, h1, h2, h3, h4⟩ := H (Go p l e R s m args below meth c n0 Q) ⟨p, e, s, m, args, below, meth, c, Bd.exec, Bd.bytes, hml0, findClass_of_methodNamed Bd.named, (name_of_methodNamed Bd.named Bd.method).1, Bd.returns, Bd.notSynchronized, hZ, hw, rfl⟩ s₁ [] X0 e0 (Fr.nil n0)
  exact ⟨s₂, o, castTop (he m) h1, h2, h3, h4⟩
theorem Ctr.mono {l : Launch} {Z : State} {R : Room} {y : MethodName} {bytes : ByteArray} {maxL : Nat} {ret : Option FieldType} {n0 : Nat} {Q Q' : Option Value → Heap → Prop} {as : Array Value} {h0 : Heap} {wl : List Jvm.Cond} (H : Ctr l Z y bytes maxL ret R n0 as h0 Q wl) (hq : ∀ v h, Q v h → Q' v h) : Ctr l Z y bytes maxL ret R n0 as h0 Q' wl := by
  intro p e ha hc hk s m args below hf happ hP hK
  obtain ⟨n, o, h1, h2, h3, v, L, h4, h5, h6⟩ := H p e ha hc hk s m args below hf happ hP hK
  exact ⟨n, o, h1, h2, h3, v, L, h4, ⟨hq _ _ h5.1, h5.2⟩, h6⟩
section Laws
variable {G : GT} {k' n' : Nat} {l : Launch} {Z : State} {a0 : Array Value} {ws : List Jvm.Cond} {R : Room} {y : MethodName} {bytes : ByteArray} {maxL : Nat} {ret : Option FieldType} {n0 : Nat} {Q : Option Value → Heap → Prop} {h : Heap} {k n pc pc' pc1 pc2 : Nat} {ls ls' : Array Slot} {st rest : List Value}
theorem lift {p : Program} {e : Env} {s : State} {m : MethodId} {args : Array Value} {below : List Frame} {meth : Method} {c : Code} {st' : List Value}
    (H : ∀ T locs, Stand p l e R s m args below meth c T locs k n → T.heap = h → ∀ target, Steps p.tables e below (T.setTop (mkF m pc' ls' st')) target → Steps p.tables e below (T.setTop (mkF m pc ls st)) target)
    (hr : Go p l e R s m args below meth c n0 Q h k n pc' ls' st') : Go p l e R s m args below meth c n0 Q h k n pc ls st := by
  intro T locs X hT hF
  obtain ⟨s₂, o, h1, h2⟩ := hr T locs X hT hF
  exact ⟨s₂, o, H T locs X hT s₂ h1, h2⟩
theorem word {d : Jvm.Cond} {i : Nat} (hw : ∀ d ∈ ws, d.before a0 Z = true) (hi : ws[i]? = some d) : d.before a0 Z = true := hw _ (List.mem_of_getElem? hi)
theorem Cx.iload (C : Cx G l Z a0 ws R y bytes maxL ret n0 Q) {j : Nat} {v : Int32} (hd : decode bytes pc = .ok (.iload j, 2)) (hl : ls[j]? = some (.val (.int v))) (hp : pc + 2 = pc') (hr : G h k n pc' ls (.int v :: st)) : G h k n pc ls (st) := by
  obtain ⟨p, e, s, m, args, below, meth, c, hx, hby, hml, hown, hnm, hret, hlk, hZ, hw, rfl⟩ := C
  subst hp
  exact lift (fun T locs X _ target q => XS.iload X.here hx rfl (hb hby hd) hl q) hr
theorem Cx.lload (C : Cx G l Z a0 ws R y bytes maxL ret n0 Q) {j : Nat} {v : Int64} (hd : decode bytes pc = .ok (.lload j, 2)) (hl : ls[j]? = some (.val (.long v))) (hp : pc + 2 = pc') (hr : G h k n pc' ls (.long v :: st)) : G h k n pc ls (st) := by
  obtain ⟨p, e, s, m, args, below, meth, c, hx, hby, hml, hown, hnm, hret, hlk, hZ, hw, rfl⟩ := C
  subst hp
  exact lift (fun T locs X _ target q => XT.lload X.here hx rfl (hb hby hd) hl q) hr
theorem Cx.aload (C : Cx G l Z a0 ws R y bytes maxL ret n0 Q) {j : Nat} {v : Addr} (hd : decode bytes pc = .ok (.aload j, 2)) (hl : ls[j]? = some (.val (.ref v))) (hp : pc + 2 = pc') (hr : G h k n pc' ls (.ref v :: st)) : G h k n pc ls (st) := by
  obtain ⟨p, e, s, m, args, below, meth, c, hx, hby, hml, hown, hnm, hret, hlk, hZ, hw, rfl⟩ := C
  subst hp
  exact lift (fun T locs X _ target q => XS.aload X.here hx rfl (hb hby hd) hl rfl q) hr
theorem Cx.istore (C : Cx G l Z a0 ws R y bytes maxL ret n0 Q) {j : Nat} {x : Int32} (hd : decode bytes pc = .ok (.istore j, 2)) (hl : storeLocals ls j (.int x) = some ls') (hp : pc + 2 = pc') (hr : G h k n pc' ls' (st)) : G h k n pc ls (.int x :: st) := by
  obtain ⟨p, e, s, m, args, below, meth, c, hx, hby, hml, hown, hnm, hret, hlk, hZ, hw, rfl⟩ := C
  subst hp
  exact lift (fun T locs X _ target q => XS.istore X.here hx rfl (hb hby hd) rfl hl q) hr
theorem Cx.lstore (C : Cx G l Z a0 ws R y bytes maxL ret n0 Q) {j : Nat} {x : Int64} (hd : decode bytes pc = .ok (.lstore j, 2)) (hl : storeLocals ls j (.long x) = some ls') (hp : pc + 2 = pc') (hr : G h k n pc' ls' (st)) : G h k n pc ls (.long x :: st) := by
  obtain ⟨p, e, s, m, args, below, meth, c, hx, hby, hml, hown, hnm, hret, hlk, hZ, hw, rfl⟩ := C
  subst hp
  exact lift (fun T locs X _ target q => XT.lstore X.here hx rfl (hb hby hd) rfl hl q) hr
theorem Cx.astore (C : Cx G l Z a0 ws R y bytes maxL ret n0 Q) {j : Nat} {x : Addr} (hd : decode bytes pc = .ok (.astore j, 2)) (hl : storeLocals ls j (.ref x) = some ls') (hp : pc + 2 = pc') (hr : G h k n pc' ls' (st)) : G h k n pc ls (.ref x :: st) := by
  obtain ⟨p, e, s, m, args, below, meth, c, hx, hby, hml, hown, hnm, hret, hlk, hZ, hw, rfl⟩ := C
  subst hp
  exact lift (fun T locs X _ target q => XS.astore X.here hx rfl (hb hby hd) rfl rfl hl q) hr
theorem Cx.iloadN (C : Cx G l Z a0 ws R y bytes maxL ret n0 Q) {j : Fin 4} {v : Int32} (hd : decode bytes pc = .ok (.iload_n j, 1)) (hl : ls[j.val]? = some (.val (.int v))) (hp : pc + 1 = pc') (hr : G h k n pc' ls (.int v :: st)) : G h k n pc ls (st) := by
  obtain ⟨p, e, s, m, args, below, meth, c, hx, hby, hml, hown, hnm, hret, hlk, hZ, hw, rfl⟩ := C
  subst hp
  exact lift (fun T locs X _ target q => XS.iloadN X.here hx rfl (hb hby hd) hl q) hr
theorem Cx.lloadN (C : Cx G l Z a0 ws R y bytes maxL ret n0 Q) {j : Fin 4} {v : Int64} (hd : decode bytes pc = .ok (.lload_n j, 1)) (hl : ls[j.val]? = some (.val (.long v))) (hp : pc + 1 = pc') (hr : G h k n pc' ls (.long v :: st)) : G h k n pc ls (st) := by
  obtain ⟨p, e, s, m, args, below, meth, c, hx, hby, hml, hown, hnm, hret, hlk, hZ, hw, rfl⟩ := C
  subst hp
  exact lift (fun T locs X _ target q => XT.lloadN X.here hx rfl (hb hby hd) hl q) hr
theorem Cx.aloadN (C : Cx G l Z a0 ws R y bytes maxL ret n0 Q) {j : Fin 4} {v : Addr} (hd : decode bytes pc = .ok (.aload_n j, 1)) (hl : ls[j.val]? = some (.val (.ref v))) (hp : pc + 1 = pc') (hr : G h k n pc' ls (.ref v :: st)) : G h k n pc ls (st) := by
  obtain ⟨p, e, s, m, args, below, meth, c, hx, hby, hml, hown, hnm, hret, hlk, hZ, hw, rfl⟩ := C
  subst hp
  exact lift (fun T locs X _ target q => XS.aloadN X.here hx rfl (hb hby hd) hl rfl q) hr
theorem Cx.istoreN (C : Cx G l Z a0 ws R y bytes maxL ret n0 Q) {j : Fin 4} {x : Int32} (hd : decode bytes pc = .ok (.istore_n j, 1)) (hl : storeLocals ls j.val (.int x) = some ls') (hp : pc + 1 = pc') (hr : G h k n pc' ls' (st)) : G h k n pc ls (.int x :: st) := by
  obtain ⟨p, e, s, m, args, below, meth, c, hx, hby, hml, hown, hnm, hret, hlk, hZ, hw, rfl⟩ := C
  subst hp
  exact lift (fun T locs X _ target q => XS.istoreN X.here hx rfl (hb hby hd) rfl hl q) hr
theorem Cx.lstoreN (C : Cx G l Z a0 ws R y bytes maxL ret n0 Q) {j : Fin 4} {x : Int64} (hd : decode bytes pc = .ok (.lstore_n j, 1)) (hl : storeLocals ls j.val (.long x) = some ls') (hp : pc + 1 = pc') (hr : G h k n pc' ls' (st)) : G h k n pc ls (.long x :: st) := by
  obtain ⟨p, e, s, m, args, below, meth, c, hx, hby, hml, hown, hnm, hret, hlk, hZ, hw, rfl⟩ := C
  subst hp
  exact lift (fun T locs X _ target q => XT.lstoreN X.here hx rfl (hb hby hd) rfl hl q) hr
theorem Cx.astoreN (C : Cx G l Z a0 ws R y bytes maxL ret n0 Q) {j : Fin 4} {x : Addr} (hd : decode bytes pc = .ok (.astore_n j, 1)) (hl : storeLocals ls j.val (.ref x) = some ls') (hp : pc + 1 = pc') (hr : G h k n pc' ls' (st)) : G h k n pc ls (.ref x :: st) := by
  obtain ⟨p, e, s, m, args, below, meth, c, hx, hby, hml, hown, hnm, hret, hlk, hZ, hw, rfl⟩ := C
  subst hp
  exact lift (fun T locs X _ target q => XS.astoreN X.here hx rfl (hb hby hd) rfl rfl hl q) hr
theorem Cx.iconst (C : Cx G l Z a0 ws R y bytes maxL ret n0 Q) {i : Int} {v : Int32} (hd : decode bytes pc = .ok (.iconst i, 1)) (hv : Int32.ofInt i = v) (hp : pc + 1 = pc') (hr : G h k n pc' ls (.int v :: st)) : G h k n pc ls (st) := by
  obtain ⟨p, e, s, m, args, below, meth, c, hx, hby, hml, hown, hnm, hret, hlk, hZ, hw, rfl⟩ := C
  subst hp
  exact lift (fun T locs X _ target q => XT.iconstV X.here hx rfl v (hb hby hd) hv q) hr
theorem Cx.bipush (C : Cx G l Z a0 ws R y bytes maxL ret n0 Q) {i : Int} {v : Int32} (hd : decode bytes pc = .ok (.bipush i, 2)) (hv : (Int8.ofInt i).toInt32 = v) (hp : pc + 2 = pc') (hr : G h k n pc' ls (.int v :: st)) : G h k n pc ls (st) := by
  obtain ⟨p, e, s, m, args, below, meth, c, hx, hby, hml, hown, hnm, hret, hlk, hZ, hw, rfl⟩ := C
  subst hp
  exact lift (fun T locs X _ target q => XT.bipushV X.here hx rfl v (hb hby hd) hv q) hr
theorem Cx.sipush (C : Cx G l Z a0 ws R y bytes maxL ret n0 Q) {i : Int} {v : Int32} (hd : decode bytes pc = .ok (.sipush i, 3)) (hv : (Int16.ofInt i).toInt32 = v) (hp : pc + 3 = pc') (hr : G h k n pc' ls (.int v :: st)) : G h k n pc ls (st) := by
  obtain ⟨p, e, s, m, args, below, meth, c, hx, hby, hml, hown, hnm, hret, hlk, hZ, hw, rfl⟩ := C
  subst hp
  exact lift (fun T locs X _ target q => XT.sipushV X.here hx rfl v (hb hby hd) hv q) hr
theorem Cx.lconst (C : Cx G l Z a0 ws R y bytes maxL ret n0 Q) {i : Fin 2} {v : Int64} (hd : decode bytes pc = .ok (.lconst i, 1)) (hv : Int64.ofNat i = v) (hp : pc + 1 = pc') (hr : G h k n pc' ls (.long v :: st)) : G h k n pc ls (st) := by
  obtain ⟨p, e, s, m, args, below, meth, c, hx, hby, hml, hown, hnm, hret, hlk, hZ, hw, rfl⟩ := C
  subst hp
  exact lift (fun T locs X _ target q => XT.lconstV X.here hx rfl v (hb hby hd) hv q) hr
theorem Cx.dconst0 (C : Cx G l Z a0 ws R y bytes maxL ret n0 Q)  (hd : decode bytes pc = .ok (.dconst 0, 1))  (hp : pc + 1 = pc') (hr : G h k n pc' ls (.double FP.dconst0 :: st)) : G h k n pc ls (st) := by
  obtain ⟨p, e, s, m, args, below, meth, c, hx, hby, hml, hown, hnm, hret, hlk, hZ, hw, rfl⟩ := C
  subst hp
  exact lift (fun T locs X _ target q => XS.dconst0 X.here hx rfl (hb hby hd) rfl q) hr
theorem Cx.dconst1 (C : Cx G l Z a0 ws R y bytes maxL ret n0 Q)  (hd : decode bytes pc = .ok (.dconst 1, 1))  (hp : pc + 1 = pc') (hr : G h k n pc' ls (.double FP.dconst1 :: st)) : G h k n pc ls (st) := by
  obtain ⟨p, e, s, m, args, below, meth, c, hx, hby, hml, hown, hnm, hret, hlk, hZ, hw, rfl⟩ := C
  subst hp
  exact lift (fun T locs X _ target q => XS.dconst1 X.here hx rfl (hb hby hd) rfl q) hr
theorem Cx.iadd (C : Cx G l Z a0 ws R y bytes maxL ret n0 Q) {a b : Int32} (hd : decode bytes pc = .ok (.iadd, 1))  (hp : pc + 1 = pc') (hr : G h k n pc' ls (.int (a + b) :: st)) : G h k n pc ls (.int b :: .int a :: st) := by
  obtain ⟨p, e, s, m, args, below, meth, c, hx, hby, hml, hown, hnm, hret, hlk, hZ, hw, rfl⟩ := C
  subst hp
  exact lift (fun T locs X _ target q => XS.iadd X.here hx rfl (hb hby hd) rfl q) hr
theorem Cx.isub (C : Cx G l Z a0 ws R y bytes maxL ret n0 Q) {a b : Int32} (hd : decode bytes pc = .ok (.isub, 1))  (hp : pc + 1 = pc') (hr : G h k n pc' ls (.int (a - b) :: st)) : G h k n pc ls (.int b :: .int a :: st) := by
  obtain ⟨p, e, s, m, args, below, meth, c, hx, hby, hml, hown, hnm, hret, hlk, hZ, hw, rfl⟩ := C
  subst hp
  exact lift (fun T locs X _ target q => XS.isub X.here hx rfl (hb hby hd) rfl q) hr
theorem Cx.imul (C : Cx G l Z a0 ws R y bytes maxL ret n0 Q) {a b : Int32} (hd : decode bytes pc = .ok (.imul, 1))  (hp : pc + 1 = pc') (hr : G h k n pc' ls (.int (a * b) :: st)) : G h k n pc ls (.int b :: .int a :: st) := by
  obtain ⟨p, e, s, m, args, below, meth, c, hx, hby, hml, hown, hnm, hret, hlk, hZ, hw, rfl⟩ := C
  subst hp
  exact lift (fun T locs X _ target q => XS.imul X.here hx rfl (hb hby hd) rfl q) hr
theorem Cx.iand (C : Cx G l Z a0 ws R y bytes maxL ret n0 Q) {a b : Int32} (hd : decode bytes pc = .ok (.iand, 1))  (hp : pc + 1 = pc') (hr : G h k n pc' ls (.int (a &&& b) :: st)) : G h k n pc ls (.int b :: .int a :: st) := by
  obtain ⟨p, e, s, m, args, below, meth, c, hx, hby, hml, hown, hnm, hret, hlk, hZ, hw, rfl⟩ := C
  subst hp
  exact lift (fun T locs X _ target q => XS.iand X.here hx rfl (hb hby hd) rfl q) hr
theorem Cx.ior (C : Cx G l Z a0 ws R y bytes maxL ret n0 Q) {a b : Int32} (hd : decode bytes pc = .ok (.ior, 1))  (hp : pc + 1 = pc') (hr : G h k n pc' ls (.int (a ||| b) :: st)) : G h k n pc ls (.int b :: .int a :: st) := by
  obtain ⟨p, e, s, m, args, below, meth, c, hx, hby, hml, hown, hnm, hret, hlk, hZ, hw, rfl⟩ := C
  subst hp
  exact lift (fun T locs X _ target q => XT.ior X.here hx rfl (hb hby hd) rfl q) hr
theorem Cx.ixor (C : Cx G l Z a0 ws R y bytes maxL ret n0 Q) {a b : Int32} (hd : decode bytes pc = .ok (.ixor, 1))  (hp : pc + 1 = pc') (hr : G h k n pc' ls (.int (a ^^^ b) :: st)) : G h k n pc ls (.int b :: .int a :: st) := by
  obtain ⟨p, e, s, m, args, below, meth, c, hx, hby, hml, hown, hnm, hret, hlk, hZ, hw, rfl⟩ := C
  subst hp
  exact lift (fun T locs X _ target q => XT.ixor X.here hx rfl (hb hby hd) rfl q) hr
theorem Cx.ladd (C : Cx G l Z a0 ws R y bytes maxL ret n0 Q) {a b : Int64} (hd : decode bytes pc = .ok (.ladd, 1))  (hp : pc + 1 = pc') (hr : G h k n pc' ls (.long (a + b) :: st)) : G h k n pc ls (.long b :: .long a :: st) := by
  obtain ⟨p, e, s, m, args, below, meth, c, hx, hby, hml, hown, hnm, hret, hlk, hZ, hw, rfl⟩ := C
  subst hp
  exact lift (fun T locs X _ target q => XT.ladd X.here hx rfl (hb hby hd) rfl q) hr
theorem Cx.lsub (C : Cx G l Z a0 ws R y bytes maxL ret n0 Q) {a b : Int64} (hd : decode bytes pc = .ok (.lsub, 1))  (hp : pc + 1 = pc') (hr : G h k n pc' ls (.long (a - b) :: st)) : G h k n pc ls (.long b :: .long a :: st) := by
  obtain ⟨p, e, s, m, args, below, meth, c, hx, hby, hml, hown, hnm, hret, hlk, hZ, hw, rfl⟩ := C
  subst hp
  exact lift (fun T locs X _ target q => XT.lsub X.here hx rfl (hb hby hd) rfl q) hr
theorem Cx.lmul (C : Cx G l Z a0 ws R y bytes maxL ret n0 Q) {a b : Int64} (hd : decode bytes pc = .ok (.lmul, 1))  (hp : pc + 1 = pc') (hr : G h k n pc' ls (.long (a * b) :: st)) : G h k n pc ls (.long b :: .long a :: st) := by
  obtain ⟨p, e, s, m, args, below, meth, c, hx, hby, hml, hown, hnm, hret, hlk, hZ, hw, rfl⟩ := C
  subst hp
  exact lift (fun T locs X _ target q => XT.lmul X.here hx rfl (hb hby hd) rfl q) hr
theorem Cx.land (C : Cx G l Z a0 ws R y bytes maxL ret n0 Q) {a b : Int64} (hd : decode bytes pc = .ok (.land, 1))  (hp : pc + 1 = pc') (hr : G h k n pc' ls (.long (a &&& b) :: st)) : G h k n pc ls (.long b :: .long a :: st) := by
  obtain ⟨p, e, s, m, args, below, meth, c, hx, hby, hml, hown, hnm, hret, hlk, hZ, hw, rfl⟩ := C
  subst hp
  exact lift (fun T locs X _ target q => XT.land X.here hx rfl (hb hby hd) rfl q) hr
theorem Cx.lor (C : Cx G l Z a0 ws R y bytes maxL ret n0 Q) {a b : Int64} (hd : decode bytes pc = .ok (.lor, 1))  (hp : pc + 1 = pc') (hr : G h k n pc' ls (.long (a ||| b) :: st)) : G h k n pc ls (.long b :: .long a :: st) := by
  obtain ⟨p, e, s, m, args, below, meth, c, hx, hby, hml, hown, hnm, hret, hlk, hZ, hw, rfl⟩ := C
  subst hp
  exact lift (fun T locs X _ target q => XT.lor X.here hx rfl (hb hby hd) rfl q) hr
theorem Cx.lxor (C : Cx G l Z a0 ws R y bytes maxL ret n0 Q) {a b : Int64} (hd : decode bytes pc = .ok (.lxor, 1))  (hp : pc + 1 = pc') (hr : G h k n pc' ls (.long (a ^^^ b) :: st)) : G h k n pc ls (.long b :: .long a :: st) := by
  obtain ⟨p, e, s, m, args, below, meth, c, hx, hby, hml, hown, hnm, hret, hlk, hZ, hw, rfl⟩ := C
  subst hp
  exact lift (fun T locs X _ target q => XT.lxor X.here hx rfl (hb hby hd) rfl q) hr
theorem Cx.ishl (C : Cx G l Z a0 ws R y bytes maxL ret n0 Q) {a b : Int32} (hd : decode bytes pc = .ok (.ishl, 1))  (hp : pc + 1 = pc') (hr : G h k n pc' ls (.int (a <<< (b &&& 31)) :: st)) : G h k n pc ls (.int b :: .int a :: st) := by
  obtain ⟨p, e, s, m, args, below, meth, c, hx, hby, hml, hown, hnm, hret, hlk, hZ, hw, rfl⟩ := C
  subst hp
  exact lift (fun T locs X _ target q => XT.ishl X.here hx rfl (hb hby hd) rfl q) hr
theorem Cx.ishr (C : Cx G l Z a0 ws R y bytes maxL ret n0 Q) {a b : Int32} (hd : decode bytes pc = .ok (.ishr, 1))  (hp : pc + 1 = pc') (hr : G h k n pc' ls (.int (a >>> (b &&& 31)) :: st)) : G h k n pc ls (.int b :: .int a :: st) := by
  obtain ⟨p, e, s, m, args, below, meth, c, hx, hby, hml, hown, hnm, hret, hlk, hZ, hw, rfl⟩ := C
  subst hp
  exact lift (fun T locs X _ target q => XT.ishr X.here hx rfl (hb hby hd) rfl q) hr
theorem Cx.iushr (C : Cx G l Z a0 ws R y bytes maxL ret n0 Q) {a b : Int32} (hd : decode bytes pc = .ok (.iushr, 1))  (hp : pc + 1 = pc') (hr : G h k n pc' ls (.int (XT.ushr a b) :: st)) : G h k n pc ls (.int b :: .int a :: st) := by
  obtain ⟨p, e, s, m, args, below, meth, c, hx, hby, hml, hown, hnm, hret, hlk, hZ, hw, rfl⟩ := C
  subst hp
  exact lift (fun T locs X _ target q => XT.iushr X.here hx rfl (hb hby hd) rfl q) hr
theorem Cx.lshl (C : Cx G l Z a0 ws R y bytes maxL ret n0 Q) {a : Int64} {b : Int32} (hd : decode bytes pc = .ok (.lshl, 1))  (hp : pc + 1 = pc') (hr : G h k n pc' ls (.long (a <<< (b.toInt64 &&& 63)) :: st)) : G h k n pc ls (.int b :: .long a :: st) := by
  obtain ⟨p, e, s, m, args, below, meth, c, hx, hby, hml, hown, hnm, hret, hlk, hZ, hw, rfl⟩ := C
  subst hp
  exact lift (fun T locs X _ target q => XT.lshl X.here hx rfl (hb hby hd) rfl q) hr
theorem Cx.lshr (C : Cx G l Z a0 ws R y bytes maxL ret n0 Q) {a : Int64} {b : Int32} (hd : decode bytes pc = .ok (.lshr, 1))  (hp : pc + 1 = pc') (hr : G h k n pc' ls (.long (a >>> (b.toInt64 &&& 63)) :: st)) : G h k n pc ls (.int b :: .long a :: st) := by
  obtain ⟨p, e, s, m, args, below, meth, c, hx, hby, hml, hown, hnm, hret, hlk, hZ, hw, rfl⟩ := C
  subst hp
  exact lift (fun T locs X _ target q => XT.lshr X.here hx rfl (hb hby hd) rfl q) hr
theorem Cx.lushr (C : Cx G l Z a0 ws R y bytes maxL ret n0 Q) {a : Int64} {b : Int32} (hd : decode bytes pc = .ok (.lushr, 1))  (hp : pc + 1 = pc') (hr : G h k n pc' ls (.long (XT.ushrL a b) :: st)) : G h k n pc ls (.int b :: .long a :: st) := by
  obtain ⟨p, e, s, m, args, below, meth, c, hx, hby, hml, hown, hnm, hret, hlk, hZ, hw, rfl⟩ := C
  subst hp
  exact lift (fun T locs X _ target q => XT.lushr X.here hx rfl (hb hby hd) rfl q) hr
theorem Cx.ineg (C : Cx G l Z a0 ws R y bytes maxL ret n0 Q) {a : Int32} (hd : decode bytes pc = .ok (.ineg, 1))  (hp : pc + 1 = pc') (hr : G h k n pc' ls (.int (-a) :: st)) : G h k n pc ls (.int a :: st) := by
  obtain ⟨p, e, s, m, args, below, meth, c, hx, hby, hml, hown, hnm, hret, hlk, hZ, hw, rfl⟩ := C
  subst hp
  exact lift (fun T locs X _ target q => XS.ineg X.here hx rfl (hb hby hd) rfl q) hr
theorem Cx.i2l (C : Cx G l Z a0 ws R y bytes maxL ret n0 Q) {a : Int32} (hd : decode bytes pc = .ok (.i2l, 1))  (hp : pc + 1 = pc') (hr : G h k n pc' ls (.long a.toInt64 :: st)) : G h k n pc ls (.int a :: st) := by
  obtain ⟨p, e, s, m, args, below, meth, c, hx, hby, hml, hown, hnm, hret, hlk, hZ, hw, rfl⟩ := C
  subst hp
  exact lift (fun T locs X _ target q => XT.i2l X.here hx rfl (hb hby hd) rfl q) hr
theorem Cx.l2i (C : Cx G l Z a0 ws R y bytes maxL ret n0 Q) {a : Int64} (hd : decode bytes pc = .ok (.l2i, 1))  (hp : pc + 1 = pc') (hr : G h k n pc' ls (.int a.toInt32 :: st)) : G h k n pc ls (.long a :: st) := by
  obtain ⟨p, e, s, m, args, below, meth, c, hx, hby, hml, hown, hnm, hret, hlk, hZ, hw, rfl⟩ := C
  subst hp
  exact lift (fun T locs X _ target q => XT.l2i X.here hx rfl (hb hby hd) rfl q) hr
theorem Cx.i2b (C : Cx G l Z a0 ws R y bytes maxL ret n0 Q) {a : Int32} (hd : decode bytes pc = .ok (.i2b, 1))  (hp : pc + 1 = pc') (hr : G h k n pc' ls (.int a.toInt8.toInt32 :: st)) : G h k n pc ls (.int a :: st) := by
  obtain ⟨p, e, s, m, args, below, meth, c, hx, hby, hml, hown, hnm, hret, hlk, hZ, hw, rfl⟩ := C
  subst hp
  exact lift (fun T locs X _ target q => XT.i2b X.here hx rfl (hb hby hd) rfl q) hr
theorem Cx.i2c (C : Cx G l Z a0 ws R y bytes maxL ret n0 Q) {a : Int32} (hd : decode bytes pc = .ok (.i2c, 1))  (hp : pc + 1 = pc') (hr : G h k n pc' ls (.int a.toUInt32.toUInt16.toUInt32.toInt32 :: st)) : G h k n pc ls (.int a :: st) := by
  obtain ⟨p, e, s, m, args, below, meth, c, hx, hby, hml, hown, hnm, hret, hlk, hZ, hw, rfl⟩ := C
  subst hp
  exact lift (fun T locs X _ target q => XT.i2c X.here hx rfl (hb hby hd) rfl q) hr
theorem Cx.lcmp (C : Cx G l Z a0 ws R y bytes maxL ret n0 Q) {a b : Int64} (hd : decode bytes pc = .ok (.lcmp, 1))  (hp : pc + 1 = pc') (hr : G h k n pc' ls (.int (XT.cmpL a b) :: st)) : G h k n pc ls (.long b :: .long a :: st) := by
  obtain ⟨p, e, s, m, args, below, meth, c, hx, hby, hml, hown, hnm, hret, hlk, hZ, hw, rfl⟩ := C
  subst hp
  exact lift (fun T locs X _ target q => XT.lcmp X.here hx rfl (hb hby hd) rfl q) hr
theorem Cx.dup (C : Cx G l Z a0 ws R y bytes maxL ret n0 Q) {x : Value} (hd : decode bytes pc = .ok (.dup, 1)) (hc : x.category = 1) (hp : pc + 1 = pc') (hr : G h k n pc' ls (x :: x :: st)) : G h k n pc ls (x :: st) := by
  obtain ⟨p, e, s, m, args, below, meth, c, hx, hby, hml, hown, hnm, hret, hlk, hZ, hw, rfl⟩ := C
  subst hp
  exact lift (fun T locs X _ target q => XS.dup X.here hx rfl (hb hby hd) rfl hc q) hr
theorem Cx.dup2 (C : Cx G l Z a0 ws R y bytes maxL ret n0 Q) {x z : Value} (hd : decode bytes pc = .ok (.dup2, 1)) (hc : x.category = 1) (hc' : z.category = 1) (hp : pc + 1 = pc') (hr : G h k n pc' ls (x :: z :: x :: z :: st)) : G h k n pc ls (x :: z :: st) := by
  obtain ⟨p, e, s, m, args, below, meth, c, hx, hby, hml, hown, hnm, hret, hlk, hZ, hw, rfl⟩ := C
  subst hp
  exact lift (fun T locs X _ target q => XT.dup2 X.here hx rfl (hb hby hd) rfl hc hc' q) hr
theorem Cx.iinc (C : Cx G l Z a0 ws R y bytes maxL ret n0 Q) {j : Nat} {i : Int} {v x : Int32} (hd : decode bytes pc = .ok (.iinc j i, 3)) (hv : Int32.ofInt i = v) (hl : ls[j]? = some (.val (.int x))) (hl' : storeLocals ls j (.int (x + v)) = some ls') (hp : pc + 3 = pc') (hr : G h k n pc' ls' st) : G h k n pc ls st := by
  obtain ⟨p, e, s, m, args, below, meth, c, hx, hby, hml, hown, hnm, hret, hlk, hZ, hw, rfl⟩ := C
  subst hp
  exact lift (fun T locs X _ target q => XT.iincV X.here hx rfl v (hb hby hd) hv hl hl' q) hr
theorem Cx.irem (C : Cx G l Z a0 ws R y bytes maxL ret n0 Q) {a b : Int32} (hd : decode bytes pc = .ok (.irem, 1)) (hb0 : b ≠ 0) (hp : pc + 1 = pc') (hr : G h k n pc' ls (.int (a % b) :: st)) : G h k n pc ls (.int b :: .int a :: st) := by
  obtain ⟨p, e, s, m, args, below, meth, c, hx, hby, hml, hown, hnm, hret, hlk, hZ, hw, rfl⟩ := C
  subst hp
  exact lift (fun T locs X _ target q => iremM X hx rfl (hb hby hd) rfl hb0 q) hr
theorem Cx.goto (C : Cx G l Z a0 ws R y bytes maxL ret n0 Q) {o : Int} (hd : decode bytes pc = .ok (.goto o, 3)) (ho : 0 ≤ (pc : Int) + o) (hp : ((pc : Int) + o).toNat = pc') (hr : G h k n pc' ls st) : G h k n pc ls st := by
  obtain ⟨p, e, s, m, args, below, meth, c, hx, hby, hml, hown, hnm, hret, hlk, hZ, hw, rfl⟩ := C
  exact lift (fun T locs X _ target q => XS.goto X.here hx rfl (pc0 := pc) rfl (hb hby hd) ho hp q) hr
theorem Cx.dupX2 (C : Cx G l Z a0 ws R y bytes maxL ret n0 Q) {x z w : Value} (hd : decode bytes pc = .ok (.dup_x2, 1)) (hc : x.category = 1) (hc' : z.category = 1) (hc'' : w.category = 1) (hp : pc + 1 = pc') (hr : G h k n pc' ls (x :: z :: w :: x :: st)) : G h k n pc ls (x :: z :: w :: st) := by
  obtain ⟨p, e, s, m, args, below, meth, c, hx, hby, hml, hown, hnm, hret, hlk, hZ, hw, rfl⟩ := C
  subst hp
  refine lift (fun T locs X _ target q => ?_) hr
  have h := X.here
  have hd' := hb hby hd
  show Steps p.tables e below (T.setTop { method := m, pc := pc, locals := ls, stack := x :: z :: w :: st, locked := none }) _
  jvm_step h [h.top, hx, hd', hc, hc', hc'']
  exact q
theorem Cx.icmp_eq_T (C : Cx G l Z a0 ws R y bytes maxL ret n0 Q) {a b : Int32} {o : Int} (hd : decode bytes pc = .ok (.if_icmp .eq o, 3)) (hc : a = b) (ho : 0 ≤ (pc : Int) + o) (hp : ((pc : Int) + o).toNat = pc') (hr : G h k n pc' ls st) : G h k n pc ls (.int b :: .int a :: st) := by
  obtain ⟨p, e, s, m, args, below, meth, c, hx, hby, hml, hown, hnm, hret, hlk, hZ, hw, rfl⟩ := C
  exact lift (fun T locs X _ target q => XS.icmpYes X.here hx rfl (pc0 := pc) rfl (hb hby hd) rfl (teq hc).1 ho hp q) hr
theorem Cx.icmp_eq_F (C : Cx G l Z a0 ws R y bytes maxL ret n0 Q) {a b : Int32} {o : Int} (hd : decode bytes pc = .ok (.if_icmp .eq o, 3)) (hc : ¬ a = b) (hp : pc + 3 = pc') (hr : G h k n pc' ls st) : G h k n pc ls (.int b :: .int a :: st) := by
  obtain ⟨p, e, s, m, args, below, meth, c, hx, hby, hml, hown, hnm, hret, hlk, hZ, hw, rfl⟩ := C
  subst hp
  exact lift (fun T locs X _ target q => XS.icmpNo X.here hx rfl (hb hby hd) rfl (feq hc).1 q) hr
theorem Cx.if_eq_T (C : Cx G l Z a0 ws R y bytes maxL ret n0 Q) {a : Int32} {o : Int} (hd : decode bytes pc = .ok (.ifCond .eq o, 3)) (hc : a = (0 : Int32)) (ho : 0 ≤ (pc : Int) + o) (hp : ((pc : Int) + o).toNat = pc') (hr : G h k n pc' ls st) : G h k n pc ls (.int a :: st) := by
  obtain ⟨p, e, s, m, args, below, meth, c, hx, hby, hml, hown, hnm, hret, hlk, hZ, hw, rfl⟩ := C
  exact lift (fun T locs X _ target q => XS.ifYes X.here hx rfl (pc0 := pc) rfl (hb hby hd) rfl (by rw [if0]; exact (teq hc).1) ho hp q) hr
theorem Cx.if_eq_F (C : Cx G l Z a0 ws R y bytes maxL ret n0 Q) {a : Int32} {o : Int} (hd : decode bytes pc = .ok (.ifCond .eq o, 3)) (hc : ¬ a = (0 : Int32)) (hp : pc + 3 = pc') (hr : G h k n pc' ls st) : G h k n pc ls (.int a :: st) := by
  obtain ⟨p, e, s, m, args, below, meth, c, hx, hby, hml, hown, hnm, hret, hlk, hZ, hw, rfl⟩ := C
  subst hp
  exact lift (fun T locs X _ target q => XS.ifNo X.here hx rfl (hb hby hd) rfl (by rw [if0]; exact (feq hc).1) q) hr
theorem Cx.icmp_eq (C : Cx G l Z a0 ws R y bytes maxL ret n0 Q) {a b : Int32} {o : Int} (hd : decode bytes pc = .ok (.if_icmp .eq o, 3)) (ho : 0 ≤ (pc : Int) + o) (hp : ((pc : Int) + o).toNat = pc1) (hq : pc + 3 = pc2) (h1 : a = b → G h k n pc1 ls st) (h2 : ¬ a = b → G h k n pc2 ls st) : G h k n pc ls (.int b :: .int a :: st) := by
  by_cases hc : a = b
  · exact C.icmp_eq_T hd hc ho hp (h1 hc)
  · exact C.icmp_eq_F hd hc hq (h2 hc)
theorem Cx.if_eq (C : Cx G l Z a0 ws R y bytes maxL ret n0 Q) {a : Int32} {o : Int} (hd : decode bytes pc = .ok (.ifCond .eq o, 3)) (ho : 0 ≤ (pc : Int) + o) (hp : ((pc : Int) + o).toNat = pc1) (hq : pc + 3 = pc2) (h1 : a = (0 : Int32) → G h k n pc1 ls st) (h2 : ¬ a = (0 : Int32) → G h k n pc2 ls st) : G h k n pc ls (.int a :: st) := by
  by_cases hc : a = (0 : Int32)
  · exact C.if_eq_T hd hc ho hp (h1 hc)
  · exact C.if_eq_F hd hc hq (h2 hc)
theorem Cx.icmp_ne_T (C : Cx G l Z a0 ws R y bytes maxL ret n0 Q) {a b : Int32} {o : Int} (hd : decode bytes pc = .ok (.if_icmp .ne o, 3)) (hc : ¬ a = b) (ho : 0 ≤ (pc : Int) + o) (hp : ((pc : Int) + o).toNat = pc') (hr : G h k n pc' ls st) : G h k n pc ls (.int b :: .int a :: st) := by
  obtain ⟨p, e, s, m, args, below, meth, c, hx, hby, hml, hown, hnm, hret, hlk, hZ, hw, rfl⟩ := C
  exact lift (fun T locs X _ target q => XS.icmpYes X.here hx rfl (pc0 := pc) rfl (hb hby hd) rfl (feq hc).2 ho hp q) hr
theorem Cx.icmp_ne_F (C : Cx G l Z a0 ws R y bytes maxL ret n0 Q) {a b : Int32} {o : Int} (hd : decode bytes pc = .ok (.if_icmp .ne o, 3)) (hc : a = b) (hp : pc + 3 = pc') (hr : G h k n pc' ls st) : G h k n pc ls (.int b :: .int a :: st) := by
  obtain ⟨p, e, s, m, args, below, meth, c, hx, hby, hml, hown, hnm, hret, hlk, hZ, hw, rfl⟩ := C
  subst hp
  exact lift (fun T locs X _ target q => XS.icmpNo X.here hx rfl (hb hby hd) rfl (teq hc).2 q) hr
theorem Cx.if_ne_T (C : Cx G l Z a0 ws R y bytes maxL ret n0 Q) {a : Int32} {o : Int} (hd : decode bytes pc = .ok (.ifCond .ne o, 3)) (hc : ¬ a = (0 : Int32)) (ho : 0 ≤ (pc : Int) + o) (hp : ((pc : Int) + o).toNat = pc') (hr : G h k n pc' ls st) : G h k n pc ls (.int a :: st) := by
  obtain ⟨p, e, s, m, args, below, meth, c, hx, hby, hml, hown, hnm, hret, hlk, hZ, hw, rfl⟩ := C
  exact lift (fun T locs X _ target q => XS.ifYes X.here hx rfl (pc0 := pc) rfl (hb hby hd) rfl (by rw [if0]; exact (feq hc).2) ho hp q) hr
theorem Cx.if_ne_F (C : Cx G l Z a0 ws R y bytes maxL ret n0 Q) {a : Int32} {o : Int} (hd : decode bytes pc = .ok (.ifCond .ne o, 3)) (hc : a = (0 : Int32)) (hp : pc + 3 = pc') (hr : G h k n pc' ls st) : G h k n pc ls (.int a :: st) := by
  obtain ⟨p, e, s, m, args, below, meth, c, hx, hby, hml, hown, hnm, hret, hlk, hZ, hw, rfl⟩ := C
  subst hp
  exact lift (fun T locs X _ target q => XS.ifNo X.here hx rfl (hb hby hd) rfl (by rw [if0]; exact (teq hc).2) q) hr
theorem Cx.icmp_ne (C : Cx G l Z a0 ws R y bytes maxL ret n0 Q) {a b : Int32} {o : Int} (hd : decode bytes pc = .ok (.if_icmp .ne o, 3)) (ho : 0 ≤ (pc : Int) + o) (hp : ((pc : Int) + o).toNat = pc1) (hq : pc + 3 = pc2) (h1 : ¬ a = b → G h k n pc1 ls st) (h2 : a = b → G h k n pc2 ls st) : G h k n pc ls (.int b :: .int a :: st) := by
  by_cases hc : a = b
  · exact C.icmp_ne_F hd hc hq (h2 hc)
  · exact C.icmp_ne_T hd hc ho hp (h1 hc)
theorem Cx.if_ne (C : Cx G l Z a0 ws R y bytes maxL ret n0 Q) {a : Int32} {o : Int} (hd : decode bytes pc = .ok (.ifCond .ne o, 3)) (ho : 0 ≤ (pc : Int) + o) (hp : ((pc : Int) + o).toNat = pc1) (hq : pc + 3 = pc2) (h1 : ¬ a = (0 : Int32) → G h k n pc1 ls st) (h2 : a = (0 : Int32) → G h k n pc2 ls st) : G h k n pc ls (.int a :: st) := by
  by_cases hc : a = (0 : Int32)
  · exact C.if_ne_F hd hc hq (h2 hc)
  · exact C.if_ne_T hd hc ho hp (h1 hc)
theorem Cx.icmp_lt_T (C : Cx G l Z a0 ws R y bytes maxL ret n0 Q) {a b : Int32} {o : Int} (hd : decode bytes pc = .ok (.if_icmp .lt o, 3)) (hc : a < b) (ho : 0 ≤ (pc : Int) + o) (hp : ((pc : Int) + o).toNat = pc') (hr : G h k n pc' ls st) : G h k n pc ls (.int b :: .int a :: st) := by
  obtain ⟨p, e, s, m, args, below, meth, c, hx, hby, hml, hown, hnm, hret, hlk, hZ, hw, rfl⟩ := C
  exact lift (fun T locs X _ target q => XS.icmpYes X.here hx rfl (pc0 := pc) rfl (hb hby hd) rfl (tlt hc).1 ho hp q) hr
theorem Cx.icmp_lt_F (C : Cx G l Z a0 ws R y bytes maxL ret n0 Q) {a b : Int32} {o : Int} (hd : decode bytes pc = .ok (.if_icmp .lt o, 3)) (hc : ¬ a < b) (hp : pc + 3 = pc') (hr : G h k n pc' ls st) : G h k n pc ls (.int b :: .int a :: st) := by
  obtain ⟨p, e, s, m, args, below, meth, c, hx, hby, hml, hown, hnm, hret, hlk, hZ, hw, rfl⟩ := C
  subst hp
  exact lift (fun T locs X _ target q => XS.icmpNo X.here hx rfl (hb hby hd) rfl (flt hc).1 q) hr
theorem Cx.if_lt_T (C : Cx G l Z a0 ws R y bytes maxL ret n0 Q) {a : Int32} {o : Int} (hd : decode bytes pc = .ok (.ifCond .lt o, 3)) (hc : a < (0 : Int32)) (ho : 0 ≤ (pc : Int) + o) (hp : ((pc : Int) + o).toNat = pc') (hr : G h k n pc' ls st) : G h k n pc ls (.int a :: st) := by
  obtain ⟨p, e, s, m, args, below, meth, c, hx, hby, hml, hown, hnm, hret, hlk, hZ, hw, rfl⟩ := C
  exact lift (fun T locs X _ target q => XS.ifYes X.here hx rfl (pc0 := pc) rfl (hb hby hd) rfl (by rw [if0]; exact (tlt hc).1) ho hp q) hr
theorem Cx.if_lt_F (C : Cx G l Z a0 ws R y bytes maxL ret n0 Q) {a : Int32} {o : Int} (hd : decode bytes pc = .ok (.ifCond .lt o, 3)) (hc : ¬ a < (0 : Int32)) (hp : pc + 3 = pc') (hr : G h k n pc' ls st) : G h k n pc ls (.int a :: st) := by
  obtain ⟨p, e, s, m, args, below, meth, c, hx, hby, hml, hown, hnm, hret, hlk, hZ, hw, rfl⟩ := C
  subst hp
  exact lift (fun T locs X _ target q => XS.ifNo X.here hx rfl (hb hby hd) rfl (by rw [if0]; exact (flt hc).1) q) hr
theorem Cx.icmp_lt (C : Cx G l Z a0 ws R y bytes maxL ret n0 Q) {a b : Int32} {o : Int} (hd : decode bytes pc = .ok (.if_icmp .lt o, 3)) (ho : 0 ≤ (pc : Int) + o) (hp : ((pc : Int) + o).toNat = pc1) (hq : pc + 3 = pc2) (h1 : a < b → G h k n pc1 ls st) (h2 : ¬ a < b → G h k n pc2 ls st) : G h k n pc ls (.int b :: .int a :: st) := by
  by_cases hc : a < b
  · exact C.icmp_lt_T hd hc ho hp (h1 hc)
  · exact C.icmp_lt_F hd hc hq (h2 hc)
theorem Cx.if_lt (C : Cx G l Z a0 ws R y bytes maxL ret n0 Q) {a : Int32} {o : Int} (hd : decode bytes pc = .ok (.ifCond .lt o, 3)) (ho : 0 ≤ (pc : Int) + o) (hp : ((pc : Int) + o).toNat = pc1) (hq : pc + 3 = pc2) (h1 : a < (0 : Int32) → G h k n pc1 ls st) (h2 : ¬ a < (0 : Int32) → G h k n pc2 ls st) : G h k n pc ls (.int a :: st) := by
  by_cases hc : a < (0 : Int32)
  · exact C.if_lt_T hd hc ho hp (h1 hc)
  · exact C.if_lt_F hd hc hq (h2 hc)
theorem Cx.icmp_ge_T (C : Cx G l Z a0 ws R y bytes maxL ret n0 Q) {a b : Int32} {o : Int} (hd : decode bytes pc = .ok (.if_icmp .ge o, 3)) (hc : ¬ a < b) (ho : 0 ≤ (pc : Int) + o) (hp : ((pc : Int) + o).toNat = pc') (hr : G h k n pc' ls st) : G h k n pc ls (.int b :: .int a :: st) := by
  obtain ⟨p, e, s, m, args, below, meth, c, hx, hby, hml, hown, hnm, hret, hlk, hZ, hw, rfl⟩ := C
  exact lift (fun T locs X _ target q => XS.icmpYes X.here hx rfl (pc0 := pc) rfl (hb hby hd) rfl (flt hc).2.1 ho hp q) hr
theorem Cx.icmp_ge_F (C : Cx G l Z a0 ws R y bytes maxL ret n0 Q) {a b : Int32} {o : Int} (hd : decode bytes pc = .ok (.if_icmp .ge o, 3)) (hc : a < b) (hp : pc + 3 = pc') (hr : G h k n pc' ls st) : G h k n pc ls (.int b :: .int a :: st) := by
  obtain ⟨p, e, s, m, args, below, meth, c, hx, hby, hml, hown, hnm, hret, hlk, hZ, hw, rfl⟩ := C
  subst hp
  exact lift (fun T locs X _ target q => XS.icmpNo X.here hx rfl (hb hby hd) rfl (tlt hc).2.1 q) hr
theorem Cx.if_ge_T (C : Cx G l Z a0 ws R y bytes maxL ret n0 Q) {a : Int32} {o : Int} (hd : decode bytes pc = .ok (.ifCond .ge o, 3)) (hc : ¬ a < (0 : Int32)) (ho : 0 ≤ (pc : Int) + o) (hp : ((pc : Int) + o).toNat = pc') (hr : G h k n pc' ls st) : G h k n pc ls (.int a :: st) := by
  obtain ⟨p, e, s, m, args, below, meth, c, hx, hby, hml, hown, hnm, hret, hlk, hZ, hw, rfl⟩ := C
  exact lift (fun T locs X _ target q => XS.ifYes X.here hx rfl (pc0 := pc) rfl (hb hby hd) rfl (by rw [if0]; exact (flt hc).2.1) ho hp q) hr
theorem Cx.if_ge_F (C : Cx G l Z a0 ws R y bytes maxL ret n0 Q) {a : Int32} {o : Int} (hd : decode bytes pc = .ok (.ifCond .ge o, 3)) (hc : a < (0 : Int32)) (hp : pc + 3 = pc') (hr : G h k n pc' ls st) : G h k n pc ls (.int a :: st) := by
  obtain ⟨p, e, s, m, args, below, meth, c, hx, hby, hml, hown, hnm, hret, hlk, hZ, hw, rfl⟩ := C
  subst hp
  exact lift (fun T locs X _ target q => XS.ifNo X.here hx rfl (hb hby hd) rfl (by rw [if0]; exact (tlt hc).2.1) q) hr
theorem Cx.icmp_ge (C : Cx G l Z a0 ws R y bytes maxL ret n0 Q) {a b : Int32} {o : Int} (hd : decode bytes pc = .ok (.if_icmp .ge o, 3)) (ho : 0 ≤ (pc : Int) + o) (hp : ((pc : Int) + o).toNat = pc1) (hq : pc + 3 = pc2) (h1 : ¬ a < b → G h k n pc1 ls st) (h2 : a < b → G h k n pc2 ls st) : G h k n pc ls (.int b :: .int a :: st) := by
  by_cases hc : a < b
  · exact C.icmp_ge_F hd hc hq (h2 hc)
  · exact C.icmp_ge_T hd hc ho hp (h1 hc)
theorem Cx.if_ge (C : Cx G l Z a0 ws R y bytes maxL ret n0 Q) {a : Int32} {o : Int} (hd : decode bytes pc = .ok (.ifCond .ge o, 3)) (ho : 0 ≤ (pc : Int) + o) (hp : ((pc : Int) + o).toNat = pc1) (hq : pc + 3 = pc2) (h1 : ¬ a < (0 : Int32) → G h k n pc1 ls st) (h2 : a < (0 : Int32) → G h k n pc2 ls st) : G h k n pc ls (.int a :: st) := by
  by_cases hc : a < (0 : Int32)
  · exact C.if_ge_F hd hc hq (h2 hc)
  · exact C.if_ge_T hd hc ho hp (h1 hc)
theorem Cx.icmp_gt_T (C : Cx G l Z a0 ws R y bytes maxL ret n0 Q) {a b : Int32} {o : Int} (hd : decode bytes pc = .ok (.if_icmp .gt o, 3)) (hc : b < a) (ho : 0 ≤ (pc : Int) + o) (hp : ((pc : Int) + o).toNat = pc') (hr : G h k n pc' ls st) : G h k n pc ls (.int b :: .int a :: st) := by
  obtain ⟨p, e, s, m, args, below, meth, c, hx, hby, hml, hown, hnm, hret, hlk, hZ, hw, rfl⟩ := C
  exact lift (fun T locs X _ target q => XS.icmpYes X.here hx rfl (pc0 := pc) rfl (hb hby hd) rfl (tlt hc).2.2.1 ho hp q) hr
theorem Cx.icmp_gt_F (C : Cx G l Z a0 ws R y bytes maxL ret n0 Q) {a b : Int32} {o : Int} (hd : decode bytes pc = .ok (.if_icmp .gt o, 3)) (hc : ¬ b < a) (hp : pc + 3 = pc') (hr : G h k n pc' ls st) : G h k n pc ls (.int b :: .int a :: st) := by
  obtain ⟨p, e, s, m, args, below, meth, c, hx, hby, hml, hown, hnm, hret, hlk, hZ, hw, rfl⟩ := C
  subst hp
  exact lift (fun T locs X _ target q => XS.icmpNo X.here hx rfl (hb hby hd) rfl (flt hc).2.2.1 q) hr
theorem Cx.if_gt_T (C : Cx G l Z a0 ws R y bytes maxL ret n0 Q) {a : Int32} {o : Int} (hd : decode bytes pc = .ok (.ifCond .gt o, 3)) (hc : (0 : Int32) < a) (ho : 0 ≤ (pc : Int) + o) (hp : ((pc : Int) + o).toNat = pc') (hr : G h k n pc' ls st) : G h k n pc ls (.int a :: st) := by
  obtain ⟨p, e, s, m, args, below, meth, c, hx, hby, hml, hown, hnm, hret, hlk, hZ, hw, rfl⟩ := C
  exact lift (fun T locs X _ target q => XS.ifYes X.here hx rfl (pc0 := pc) rfl (hb hby hd) rfl (by rw [if0]; exact (tlt hc).2.2.1) ho hp q) hr
theorem Cx.if_gt_F (C : Cx G l Z a0 ws R y bytes maxL ret n0 Q) {a : Int32} {o : Int} (hd : decode bytes pc = .ok (.ifCond .gt o, 3)) (hc : ¬ (0 : Int32) < a) (hp : pc + 3 = pc') (hr : G h k n pc' ls st) : G h k n pc ls (.int a :: st) := by
  obtain ⟨p, e, s, m, args, below, meth, c, hx, hby, hml, hown, hnm, hret, hlk, hZ, hw, rfl⟩ := C
  subst hp
  exact lift (fun T locs X _ target q => XS.ifNo X.here hx rfl (hb hby hd) rfl (by rw [if0]; exact (flt hc).2.2.1) q) hr
theorem Cx.icmp_gt (C : Cx G l Z a0 ws R y bytes maxL ret n0 Q) {a b : Int32} {o : Int} (hd : decode bytes pc = .ok (.if_icmp .gt o, 3)) (ho : 0 ≤ (pc : Int) + o) (hp : ((pc : Int) + o).toNat = pc1) (hq : pc + 3 = pc2) (h1 : b < a → G h k n pc1 ls st) (h2 : ¬ b < a → G h k n pc2 ls st) : G h k n pc ls (.int b :: .int a :: st) := by
  by_cases hc : b < a
  · exact C.icmp_gt_T hd hc ho hp (h1 hc)
  · exact C.icmp_gt_F hd hc hq (h2 hc)
theorem Cx.if_gt (C : Cx G l Z a0 ws R y bytes maxL ret n0 Q) {a : Int32} {o : Int} (hd : decode bytes pc = .ok (.ifCond .gt o, 3)) (ho : 0 ≤ (pc : Int) + o) (hp : ((pc : Int) + o).toNat = pc1) (hq : pc + 3 = pc2) (h1 : (0 : Int32) < a → G h k n pc1 ls st) (h2 : ¬ (0 : Int32) < a → G h k n pc2 ls st) : G h k n pc ls (.int a :: st) := by
  by_cases hc : (0 : Int32) < a
  · exact C.if_gt_T hd hc ho hp (h1 hc)
  · exact C.if_gt_F hd hc hq (h2 hc)
theorem Cx.icmp_le_T (C : Cx G l Z a0 ws R y bytes maxL ret n0 Q) {a b : Int32} {o : Int} (hd : decode bytes pc = .ok (.if_icmp .le o, 3)) (hc : ¬ b < a) (ho : 0 ≤ (pc : Int) + o) (hp : ((pc : Int) + o).toNat = pc') (hr : G h k n pc' ls st) : G h k n pc ls (.int b :: .int a :: st) := by
  obtain ⟨p, e, s, m, args, below, meth, c, hx, hby, hml, hown, hnm, hret, hlk, hZ, hw, rfl⟩ := C
  exact lift (fun T locs X _ target q => XS.icmpYes X.here hx rfl (pc0 := pc) rfl (hb hby hd) rfl (flt hc).2.2.2 ho hp q) hr
theorem Cx.icmp_le_F (C : Cx G l Z a0 ws R y bytes maxL ret n0 Q) {a b : Int32} {o : Int} (hd : decode bytes pc = .ok (.if_icmp .le o, 3)) (hc : b < a) (hp : pc + 3 = pc') (hr : G h k n pc' ls st) : G h k n pc ls (.int b :: .int a :: st) := by
  obtain ⟨p, e, s, m, args, below, meth, c, hx, hby, hml, hown, hnm, hret, hlk, hZ, hw, rfl⟩ := C
  subst hp
  exact lift (fun T locs X _ target q => XS.icmpNo X.here hx rfl (hb hby hd) rfl (tlt hc).2.2.2 q) hr
theorem Cx.if_le_T (C : Cx G l Z a0 ws R y bytes maxL ret n0 Q) {a : Int32} {o : Int} (hd : decode bytes pc = .ok (.ifCond .le o, 3)) (hc : ¬ (0 : Int32) < a) (ho : 0 ≤ (pc : Int) + o) (hp : ((pc : Int) + o).toNat = pc') (hr : G h k n pc' ls st) : G h k n pc ls (.int a :: st) := by
  obtain ⟨p, e, s, m, args, below, meth, c, hx, hby, hml, hown, hnm, hret, hlk, hZ, hw, rfl⟩ := C
  exact lift (fun T locs X _ target q => XS.ifYes X.here hx rfl (pc0 := pc) rfl (hb hby hd) rfl (by rw [if0]; exact (flt hc).2.2.2) ho hp q) hr
theorem Cx.if_le_F (C : Cx G l Z a0 ws R y bytes maxL ret n0 Q) {a : Int32} {o : Int} (hd : decode bytes pc = .ok (.ifCond .le o, 3)) (hc : (0 : Int32) < a) (hp : pc + 3 = pc') (hr : G h k n pc' ls st) : G h k n pc ls (.int a :: st) := by
  obtain ⟨p, e, s, m, args, below, meth, c, hx, hby, hml, hown, hnm, hret, hlk, hZ, hw, rfl⟩ := C
  subst hp
  exact lift (fun T locs X _ target q => XS.ifNo X.here hx rfl (hb hby hd) rfl (by rw [if0]; exact (tlt hc).2.2.2) q) hr
theorem Cx.icmp_le (C : Cx G l Z a0 ws R y bytes maxL ret n0 Q) {a b : Int32} {o : Int} (hd : decode bytes pc = .ok (.if_icmp .le o, 3)) (ho : 0 ≤ (pc : Int) + o) (hp : ((pc : Int) + o).toNat = pc1) (hq : pc + 3 = pc2) (h1 : ¬ b < a → G h k n pc1 ls st) (h2 : b < a → G h k n pc2 ls st) : G h k n pc ls (.int b :: .int a :: st) := by
  by_cases hc : b < a
  · exact C.icmp_le_F hd hc hq (h2 hc)
  · exact C.icmp_le_T hd hc ho hp (h1 hc)
theorem Cx.if_le (C : Cx G l Z a0 ws R y bytes maxL ret n0 Q) {a : Int32} {o : Int} (hd : decode bytes pc = .ok (.ifCond .le o, 3)) (ho : 0 ≤ (pc : Int) + o) (hp : ((pc : Int) + o).toNat = pc1) (hq : pc + 3 = pc2) (h1 : ¬ (0 : Int32) < a → G h k n pc1 ls st) (h2 : (0 : Int32) < a → G h k n pc2 ls st) : G h k n pc ls (.int a :: st) := by
  by_cases hc : (0 : Int32) < a
  · exact C.if_le_F hd hc hq (h2 hc)
  · exact C.if_le_T hd hc ho hp (h1 hc)
theorem Cx.ldcI (C : Cx G l Z a0 ws R y bytes maxL ret n0 Q) {i idx : Nat} {v : Int32} (w : ws[i]? = some (Jvm.Cond.constant y.cls idx v)) (hd : decode bytes pc = .ok (.ldc idx, 2)) (hp : pc + 2 = pc') (hr : G h k n pc' ls (.int v :: st)) : G h k n pc ls st := by
  obtain ⟨p, e, s, m, args, below, meth, c, hx, hby, hml, hown, hnm, hret, hlk, hZ, hw, rfl⟩ := C
  subst hp
  exact lift (fun T locs X _ target q => X.ldcInt hx hown (mvT hZ (word hw w)) (g := mkF m pc ls st) rfl (hb hby hd) target q) hr
theorem Cx.ldcJ (C : Cx G l Z a0 ws R y bytes maxL ret n0 Q) {i idx : Nat} {v : Int64} (w : ws[i]? = some (Jvm.Cond.constantLong y.cls idx v)) (hd : decode bytes pc = .ok (.ldc2_w idx, 3)) (hp : pc + 3 = pc') (hr : G h k n pc' ls (.long v :: st)) : G h k n pc ls st := by
  obtain ⟨p, e, s, m, args, below, meth, c, hx, hby, hml, hown, hnm, hret, hlk, hZ, hw, rfl⟩ := C
  subst hp
  exact lift (fun T locs X _ target q => X.ldc2Long hx hown (mvT hZ (word hw w)) (g := mkF m pc ls st) rfl (hb hby hd) target q) hr
theorem Cx.ldcD (C : Cx G l Z a0 ws R y bytes maxL ret n0 Q) {i idx : Nat} {v : UInt64} (w : ws[i]? = some (Jvm.Cond.constantDouble y.cls idx v)) (hd : decode bytes pc = .ok (.ldc2_w idx, 3)) (hp : pc + 3 = pc') (hr : G h k n pc' ls (.double v :: st)) : G h k n pc ls st := by
  obtain ⟨p, e, s, m, args, below, meth, c, hx, hby, hml, hown, hnm, hret, hlk, hZ, hw, rfl⟩ := C
  subst hp
  exact lift (fun T locs X _ target q => X.ldc2DoubleC hx hown (mvT hZ (word hw w)) (g := mkF m pc ls st) rfl (hb hby hd) target q) hr
theorem castI {a b : Int32} (q : a = b) (hr : G h k n pc ls (.int b :: st)) : G h k n pc ls (.int a :: st) := by rw [q]; exact hr
theorem castJ {a b : Int64} (q : a = b) (hr : G h k n pc ls (.long b :: st)) : G h k n pc ls (.long a :: st) := by rw [q]; exact hr
theorem cmpL_lt {a b : Int64} : XT.cmpL a b < 0 ↔ a < b := by
  unfold XT.cmpL
  split
  · rename_i q; constructor
    · intro r; exact absurd r (by decide)
    · intro r; rw [Int64.lt_iff_toInt_lt] at q r; omega
  · split
    · rename_i q; subst q; constructor
      · intro r; exact absurd r (by decide)
      · intro r; rw [Int64.lt_iff_toInt_lt] at r; omega
    · rename_i p q; constructor
      · intro _; rw [Int64.lt_iff_toInt_lt] at p ⊢; have : a.toInt ≠ b.toInt := fun r => q (Int64.toInt_inj.mp r); omega
      · intro _; decide
theorem cmpL_gt {a b : Int64} : 0 < XT.cmpL a b ↔ b < a := by
  unfold XT.cmpL
  split
  · rename_i q; exact ⟨fun _ => q, fun _ => by decide⟩
  · rename_i p
    split
    · exact ⟨fun r => absurd r (by decide), fun r => absurd r p⟩
    · exact ⟨fun r => absurd r (by decide), fun r => absurd r p⟩
theorem cmpL_eq {a b : Int64} : XT.cmpL a b = 0 ↔ a = b := by
  unfold XT.cmpL
  split
  · rename_i q; constructor
    · intro r; exact absurd r (by decide)
    · intro r; subst r; rw [Int64.lt_iff_toInt_lt] at q; omega
  · split
    · rename_i q; exact ⟨fun _ => q, fun _ => rfl⟩
    · rename_i q; exact ⟨fun r => absurd r (by decide), fun r => absurd r q⟩
def b2i (b : Bool) : Int32 := match b with | true => 1 | false => 0
theorem b2i_f {b : Bool} (q : b2i b = 0) : b = false := by cases b with | false => rfl | true => exact absurd q (by decide)
theorem b2i_t {b : Bool} (q : ¬ b2i b = 0) : b = true := by cases b with | true => rfl | false => exact absurd rfl q
theorem nar_b (x : Int32) : nar .byte x.toInt8.toInt32 = x.toInt8.toInt32 := by simp [nar]
theorem Cx.ireturn (C : Cx G l Z a0 ws R y bytes maxL ret n0 Q) {a : Int32} (hd : decode bytes pc = .ok (.ireturn, 1)) (ht : ret = some .int) (hk : k ≤ R.cells) (hn : n ≤ R.slots) (hq : Q (some (.int a)) h) : G h k n pc ls (.int a :: st) := by
  obtain ⟨p, e, s, m, args, below, meth, c, hx, hby, hml, hown, hnm, hret, hlk, hZ, hw, rfl⟩ := C
  subst ht
  intro T locs X hT hF
  obtain ⟨fs, hr, hrun, hended, hW, hsame⟩ := X.leave (v := some (.int a)) (fun q => by rw [hret] at q; cases q) hlk
  refine ⟨_, _, retOut X hx hret rfl (Or.inl ⟨rfl, Or.inl rfl, a, rfl⟩) (hb hby hd) hr, hrun, hended, _, locs, rfl, ⟨?_, hF⟩, ⟨_, rfl⟩, hW, hsame.mono hk hn⟩
  show Q _ T.heap
  rw [hT]; exact hq
theorem Cx.nreturn (C : Cx G l Z a0 ws R y bytes maxL ret n0 Q) {a b : Int32} {t : FieldType} (hd : decode bytes pc = .ok (.ireturn, 1)) (ht : ret = some t) (ht' : t = .boolean ∨ t = .byte ∨ t = .char ∨ t = .short) (hk : k ≤ R.cells) (hn : n ≤ R.slots) (hb' : nar t a = b) (hq : Q (some (.int b)) h) : G h k n pc ls (.int a :: st) := by
  obtain ⟨p, e, s, m, args, below, meth, c, hx, hby, hml, hown, hnm, hret, hlk, hZ, hw, rfl⟩ := C
  subst ht hb'
  intro T locs X hT hF
  obtain ⟨fs, hr, hrun, hended, hW, hsame⟩ := X.leave (v := some (.int (nar t a))) (fun q => by rw [hret] at q; cases q) hlk
  refine ⟨_, _, retN X hx hret ht' (hb hby hd) hr, hrun, hended, _, locs, rfl, ⟨?_, hF⟩, ⟨_, rfl⟩, hW, hsame.mono hk hn⟩
  show Q _ T.heap
  rw [hT]; exact hq
theorem Cx.lreturn (C : Cx G l Z a0 ws R y bytes maxL ret n0 Q) {a : Int64} (hd : decode bytes pc = .ok (.lreturn, 1)) (ht : ret = some .long) (hk : k ≤ R.cells) (hn : n ≤ R.slots) (hq : Q (some (.long a)) h) : G h k n pc ls (.long a :: st) := by
  obtain ⟨p, e, s, m, args, below, meth, c, hx, hby, hml, hown, hnm, hret, hlk, hZ, hw, rfl⟩ := C
  subst ht
  intro T locs X hT hF
  obtain ⟨fs, hr, hrun, hended, hW, hsame⟩ := X.leave (v := some (.long a)) (fun q => by rw [hret] at q; cases q) hlk
  refine ⟨_, _, retOut X hx hret rfl (Or.inr (Or.inl ⟨rfl, rfl, a, rfl⟩)) (hb hby hd) hr, hrun, hended, _, locs, rfl, ⟨?_, hF⟩, ⟨_, rfl⟩, hW, hsame.mono hk hn⟩
  show Q _ T.heap
  rw [hT]; exact hq
theorem Cx.areturn (C : Cx G l Z a0 ws R y bytes maxL ret n0 Q) {a : Addr} {t : FieldType} (hd : decode bytes pc = .ok (.areturn, 1)) (ht : ret = some t) (ht' : t.isReference = true) (hnr : narrow t (.ref a) = .ref a) (hk : k ≤ R.cells) (hn : n ≤ R.slots) (hq : Q (some (.ref a)) h) : G h k n pc ls (.ref a :: st) := by
  obtain ⟨p, e, s, m, args, below, meth, c, hx, hby, hml, hown, hnm, hret, hlk, hZ, hw, rfl⟩ := C
  subst ht
  intro T locs X hT hF
  obtain ⟨fs, hr, hrun, hended, hW, hsame⟩ := X.leave (v := some (.ref a)) (fun q => by rw [hret] at q; cases q) hlk
  refine ⟨_, _, retOut X hx hret hnr (Or.inr (Or.inr (Or.inr (Or.inr ⟨rfl, ht', rfl⟩)))) (hb hby hd) hr, hrun, hended, _, locs, rfl, ⟨?_, hF⟩, ⟨_, rfl⟩, hW, hsame.mono hk hn⟩
  show Q _ T.heap
  rw [hT]; exact hq
theorem Cx.vreturn (C : Cx G l Z a0 ws R y bytes maxL ret n0 Q) (hd : decode bytes pc = .ok (.return_, 1)) (ht : ret = none) (hk : k ≤ R.cells) (hn : n ≤ R.slots) (hq : Q none h) : G h k n pc ls [] := by
  obtain ⟨p, e, s, m, args, below, meth, c, hx, hby, hml, hown, hnm, hret, hlk, hZ, hw, rfl⟩ := C
  subst ht
  intro T locs X hT hF
  obtain ⟨fs, hr, hrun, hended, hW, hsame⟩ := X.leave (v := none) (fun _ => rfl) hlk
  refine ⟨_, _, X.returnOut hx hret (hb hby hd) hr, hrun, hended, _, locs, rfl, ⟨?_, hF⟩, ⟨_, rfl⟩, hW, hsame.mono hk hn⟩
  show Q _ T.heap
  rw [hT]; exact hq
def Lst (Z : State) (h : Heap) (a : Addr) (ty : FieldType) (vs : List Value) : Prop := ∃ c : Cell, Arr Z h a c ty ∧ c.slots = vs.toArray
theorem Lst.lt {Z : State} {h : Heap} {a : Addr} {ty : FieldType} {vs : List Value} (F : Lst Z h a ty vs) : a < h.size := by obtain ⟨c, A, -⟩ := F; exact A.lt
theorem Lst.ext {Z : State} {h h' : Heap} {a : Addr} {ty : FieldType} {vs : List Value} (F : Lst Z h a ty vs) (E : Ext h h') : Lst Z h' a ty vs := by obtain ⟨c, A, r⟩ := F; exact ⟨c, A.ext E, r⟩
theorem Lst.other {Z : State} {h h' : Heap} {a b : Addr} {sl : Nat} {v : Value} {ty : FieldType} {vs : List Value} (F : Lst Z h b ty vs) (W : Wr h h' a sl v) (q : b ≠ a) : Lst Z h' b ty vs := by obtain ⟨c, A, r⟩ := F; exact ⟨c, A.other W q, r⟩
theorem Lst.keep {Z : State} {h h' : Heap} {a : Addr} {wr : List Addr} {ty : FieldType} {vs : List Value} (F : Lst Z h a ty vs) (K : Keep h h' wr) (q : a ∉ wr) : Lst Z h' a ty vs := by obtain ⟨c, A, r⟩ := F; exact ⟨c, ⟨K.2.1 a c A.1 q, A.2⟩, r⟩
def Idx (j : Int32) (i : Nat) : Prop := ¬ j < 0 ∧ j.toNatClampNeg = i
theorem Idx.of {j : Int32} {i : Nat} (h : j.toInt = (i : Int)) : Idx j i := by
  refine ⟨fun q => ?_, ?_⟩
  · rw [Int32.lt_iff_toInt_lt] at q; have : (0 : Int32).toInt = 0 := rfl; omega
  · simp only [Int32.toNatClampNeg]; omega
theorem Idx.int {j : Int32} {i : Nat} (h : Idx j i) : j.toInt = (i : Int) := by rw [nat_of h.1, h.2]
theorem Idx.bound {j : Int32} {i : Nat} {c : Cell} {vs : List Value} (h : Idx j i) (r : c.slots = vs.toArray) (hi : i < vs.length) : ¬ (j < 0 ∨ c.slots.size ≤ j.toNatClampNeg) := by
  rintro (q | q)
  · exact h.1 q
  · rw [h.2, r] at q; simp at q; omega
theorem Cx.arraylength (C : Cx G l Z a0 ws R y bytes maxL ret n0 Q) {a : Addr} {ty : FieldType} {vs : List Value} {N : Int32} (A : Lst Z h a ty vs) (hN : vs.length.toInt32 = N) (hd : decode bytes pc = .ok (.arraylength, 1)) (hp : pc + 1 = pc') (hr : G h k n pc' ls (.int N :: st)) : G h k n pc ls (.ref a :: st) := by
  obtain ⟨p, e, s, m, args, below, meth, c, hx, hby, hml, hown, hnm, hret, hlk, hZ, hw, rfl⟩ := C
  subst hp hN
  obtain ⟨cl, A, r⟩ := A
  refine lift (fun T locs X hT target q => X.arraylength hx (by rw [hT]; exact A.1) (State.isArrayOf_alike hZ.alike A.2.1) (g := mkF m pc ls (.ref a :: st)) rfl rfl (hb hby hd) target ?_) hr
  rw [r]; exact q
theorem Cx.iaload (C : Cx G l Z a0 ws R y bytes maxL ret n0 Q) {a : Addr} {vs : List Value} {j : Int32} {i : Nat} {v : Value} (A : Lst Z h a .int vs) (hj : Idx j i) (hv : vs[i]? = some v) (hd : decode bytes pc = .ok (.iaload, 1)) (hp : pc + 1 = pc') (hr : G h k n pc' ls (v :: st)) : G h k n pc ls (.int j :: .ref a :: st) := by
  obtain ⟨p, e, s, m, args, below, meth, c, hx, hby, hml, hown, hnm, hret, hlk, hZ, hw, rfl⟩ := C
  subst hp
  obtain ⟨cl, A, r⟩ := A
  exact lift (fun T locs X hT target q => X.iaload hx (by rw [hT]; exact A.1) (State.isArrayOf_alike hZ.alike A.2.1) A.2.2 (hj.bound r (List.getElem?_eq_some_iff.mp hv).1) (by rw [hj.2, r]; simpa using hv) (g := mkF m pc ls (.int j :: .ref a :: st)) rfl rfl (hb hby hd) target q) hr
theorem Cx.baload (C : Cx G l Z a0 ws R y bytes maxL ret n0 Q) {a : Addr} {vs : List Value} {j : Int32} {i : Nat} {v : Value} (A : Lst Z h a .byte vs) (hj : Idx j i) (hv : vs[i]? = some v) (hd : decode bytes pc = .ok (.baload, 1)) (hp : pc + 1 = pc') (hr : G h k n pc' ls (v :: st)) : G h k n pc ls (.int j :: .ref a :: st) := by
  obtain ⟨p, e, s, m, args, below, meth, c, hx, hby, hml, hown, hnm, hret, hlk, hZ, hw, rfl⟩ := C
  subst hp
  obtain ⟨cl, A, r⟩ := A
  exact lift (fun T locs X hT target q => X.baloadBytes hx (by rw [hT]; exact A.1) (State.isArrayOf_alike hZ.alike A.2.1) A.2.2 (hj.bound r (List.getElem?_eq_some_iff.mp hv).1) (by rw [hj.2, r]; simpa using hv) (g := mkF m pc ls (.int j :: .ref a :: st)) rfl rfl (hb hby hd) target q) hr
theorem Lst.same {Z : State} {h h' : Heap} {a : Addr} {i : Nat} {v : Value} {ty : FieldType} {vs : List Value} (F : Lst Z h a ty vs) (W : Wr h h' a i v) : Lst Z h' a ty (vs.set i v) := by
  obtain ⟨c, A, r⟩ := F
  exact ⟨_, A.same W, by simp [Cell.setSlot, r]⟩
theorem Cx.iastore (C : Cx G l Z a0 ws R y bytes maxL ret n0 Q) {a : Addr} {vs vs' : List Value} {j x : Int32} {i : Nat} (A : Lst Z h a .int vs) (hj : Idx j i) (hi : i < vs.length) (hs : vs.set i (.int x) = vs') (ga : n0 ≤ a) (hd : decode bytes pc = .ok (.iastore, 1)) (hp : pc + 1 = pc') (hr : ∀ h', Wr h h' a i (.int x) → Lst Z h' a .int vs' → G h' k n pc' ls st) : G h k n pc ls (.int x :: .int j :: .ref a :: st) := by
  obtain ⟨p, e, s, m, args, below, meth, c, hx, hby, hml, hown, hnm, hret, hlk, hZ, hw, rfl⟩ := C
  subst hp hs
  have A' := A
  obtain ⟨cl, A, r⟩ := A
  intro T locs X hT hF
  obtain ⟨T', h', X', e', W', s'⟩ := stI X hx hZ hT A (hj.bound r hi) (g := mkF m pc ls (.int x :: .int j :: .ref a :: st)) rfl rfl (hb hby hd)
  rw [hj.2] at W'
  obtain ⟨s₂, o, h1, h2⟩ := hr h' W' (A'.same W') T' _ X' e' (Fr.snoc X' hF ga)
  exact ⟨s₂, o, s' _ h1, h2⟩
theorem Cx.bastore (C : Cx G l Z a0 ws R y bytes maxL ret n0 Q) {a : Addr} {vs vs' : List Value} {j x x' : Int32} {i : Nat} (A : Lst Z h a .byte vs) (hj : Idx j i) (hi : i < vs.length) (hx' : nar .byte x = x') (hs : vs.set i (.int x') = vs') (ga : n0 ≤ a) (hd : decode bytes pc = .ok (.bastore, 1)) (hp : pc + 1 = pc') (hr : ∀ h', Wr h h' a i (.int x') → Lst Z h' a .byte vs' → G h' k n pc' ls st) : G h k n pc ls (.int x :: .int j :: .ref a :: st) := by
  obtain ⟨p, e, s, m, args, below, meth, c, hx, hby, hml, hown, hnm, hret, hlk, hZ, hw, rfl⟩ := C
  subst hp hs hx'
  have A' := A
  obtain ⟨cl, A, r⟩ := A
  intro T locs X hT hF
  obtain ⟨T', h', X', e', W', s'⟩ := stB X hx hZ hT A (hj.bound r hi) (g := mkF m pc ls (.int x :: .int j :: .ref a :: st)) rfl rfl (hb hby hd)
  rw [hj.2] at W'
  obtain ⟨s₂, o, h1, h2⟩ := hr h' W' (A'.same W') T' _ X' e' (Fr.snoc X' hF ga)
  exact ⟨s₂, o, s' _ h1, h2⟩
theorem Cx.dastore (C : Cx G l Z a0 ws R y bytes maxL ret n0 Q) {a : Addr} {vs : List Value} {j : Int32} {x : UInt64} {i : Nat} (A : Lst Z h a .double vs) (hj : Idx j i) (hi : i < vs.length) (ga : n0 ≤ a) (hd : decode bytes pc = .ok (.dastore, 1)) (hp : pc + 1 = pc') (hr : ∀ h', Wr h h' a i (.double x) → Lst Z h' a .double (vs.set i (.double x)) → G h' k n pc' ls st) : G h k n pc ls (.double x :: .int j :: .ref a :: st) := by
  obtain ⟨p, e, s, m, args, below, meth, c, hx, hby, hml, hown, hnm, hret, hlk, hZ, hw, rfl⟩ := C
  subst hp
  have A' := A
  obtain ⟨cl, A, r⟩ := A
  intro T locs X hT hF
  obtain ⟨T', h', X', e', W', s'⟩ := stD X hx hZ hT A (hj.bound r hi) (g := mkF m pc ls (.double x :: .int j :: .ref a :: st)) rfl rfl (hb hby hd)
  rw [hj.2] at W'
  obtain ⟨s₂, o, h1, h2⟩ := hr h' W' (A'.same W') T' _ X' e' (Fr.snoc X' hF ga)
  exact ⟨s₂, o, s' _ h1, h2⟩
theorem Cx.newarray (C : Cx G l Z a0 ws R y bytes maxL ret n0 Q) {w : Nat} {aty : ArrayType} {ty : FieldType} {d : Value} {vs : List Value} {len : Int32} {N cap : Nat} (hty : newarray.typeOf aty = ty) (hwd : ws[w]? = some (Jvm.Cond.arrayClass ty)) (hj : Idx len N) (hdv : defaultValue ty = d) (hvs : List.replicate N d = vs) (hcap : N ≤ cap) (hb8 : cap * 8 ≤ 536870912) (hc : k + 1 ≤ R.cells) (hl : n + cap ≤ R.slots) (hd : decode bytes pc = .ok (.newarray aty, 2)) (hp : pc + 2 = pc')
    (hr : ∀ h' a, a = h.size → Ext h h' → Lst Z h' a ty vs → G h' (k + 1) (n + cap) pc' ls (.ref a :: st)) : G h k n pc ls (.int len :: st) := by
  obtain ⟨p, e, s, m, args, below, meth, c, hx, hby, hml, hown, hnm, hret, hlk, hZ, hw, rfl⟩ := C
  subst hp hty hdv hvs
  intro T locs X hT hF
  obtain ⟨T', h', cA, X', e', E', A', s'⟩ := newP X hx hZ (word hw hwd) hT (g := mkF m pc ls (.int len :: st)) rfl (hb hby hd) rfl hj.1 (cap := cap) (by rw [hj.2]; exact hcap) hb8 hc hl
  obtain ⟨s₂, o, h1, h2⟩ := hr h' h.size rfl E' ⟨_, A', by simp [newA, hj.2]⟩ T' _ X' e' hF
  exact ⟨s₂, o, s' _ h1, h2⟩
theorem Cx.newO (C : Cx G l Z a0 ws R y bytes maxL ret n0 Q) {i1 i2 i3 idx nn : Nat} {K : String} (w1 : ws[i1]? = some (Jvm.Cond.classLink y.cls idx K)) (w2 : ws[i2]? = some (Jvm.Cond.instantiable K nn)) (w3 : ws[i3]? = some (Jvm.Cond.initialized K)) (hc : k + 1 ≤ R.cells) (hl : n + nn ≤ R.slots) (hd : decode bytes pc = .ok (.new idx, 3)) (hp : pc + 3 = pc')
    (hr : ∀ h' a, a = h.size → Ext h h' → Exa Z h' a K → (∀ {O nm d : String} {ty : FieldType}, Laid Z a0 K O nm d → parseFieldDescriptor d = some ty → Fld Z h' a O nm d (defaultValue ty)) → G h' (k + 1) (n + nn) pc' ls (.ref a :: st)) : G h k n pc ls st := by
  obtain ⟨p, e, s, m, args, below, meth, c, hx, hby, hml, hown, hnm, hret, hlk, hZ, hw, rfl⟩ := C
  subst hp
  intro T locs X hT hF
  obtain ⟨T', h', X', e', E', A', D', -, s'⟩ := RoadKit.newO X hx hZ hown (word hw w1) (word hw w2) (word hw w3) hT (g := mkF m pc ls st) rfl (hb hby hd) hc hl
  obtain ⟨s₂, o, h1, h2⟩ := hr h' h.size rfl E' A' D' T' _ X' e' hF
  exact ⟨s₂, o, s' _ h1, h2⟩
theorem Cx.getfield (C : Cx G l Z a0 ws R y bytes maxL ret n0 Q) {i idx : Nat} {O f d : String} {a : Addr} {v : Value} (w : ws[i]? = some (Jvm.Cond.fieldLink y.cls idx O f d)) (F : Fld Z h a O f d v) (hd : decode bytes pc = .ok (.getfield idx, 3)) (hp : pc + 3 = pc') (hr : G h k n pc' ls (v :: st)) : G h k n pc ls (.ref a :: st) := by
  obtain ⟨p, e, s, m, args, below, meth, c, hx, hby, hml, hown, hnm, hret, hlk, hZ, hw, rfl⟩ := C
  subst hp
  intro T locs X hT hF
  obtain ⟨T', X', e', s'⟩ := getF X hx hZ hown (host := "") (Or.inl (word hw w)) Via.refl hT F (g := mkF m pc ls (.ref a :: st)) rfl rfl (hb hby hd)
  obtain ⟨s₂, o, h1, h2⟩ := hr T' _ X' e' hF
  exact ⟨s₂, o, s' _ h1, h2⟩
theorem Cx.getstatic (C : Cx G l Z a0 ws R y bytes maxL ret n0 Q) {i idx : Nat} {O f d : String} {v : Value} (w : ws[i]? = some (Jvm.Cond.fieldLink y.cls idx O f d)) (F : Sta Z h O f d v) (hd : decode bytes pc = .ok (.getstatic idx, 3)) (hp : pc + 3 = pc') (hr : G h k n pc' ls (v :: st)) : G h k n pc ls st := by
  obtain ⟨p, e, s, m, args, below, meth, c, hx, hby, hml, hown, hnm, hret, hlk, hZ, hw, rfl⟩ := C
  subst hp
  intro T locs X hT hF
  obtain ⟨T', X', e', s'⟩ := getS X hx hZ (host := "") hown (word hw w) Via.refl hT F (g := mkF m pc ls st) rfl (hb hby hd)
  obtain ⟨s₂, o, h1, h2⟩ := hr T' _ X' e' hF
  exact ⟨s₂, o, s' _ h1, h2⟩
theorem Cx.putfield (C : Cx G l Z a0 ws R y bytes maxL ret n0 Q) {i i2 i3 idx kk : Nat} {O f d K : String} {a : Addr} {v v' old : Value} {ty : FieldType} (w : ws[i]? = some (Jvm.Cond.fieldLink y.cls idx O f d)) (w2 : ws[i2]? = some (Jvm.Cond.lays K O f d) ∨ (ws[i2]? = some (Jvm.Cond.laysFinal K O f d) ∧ y.cls = O ∧ y.name = "<init>")) (w3 : ws[i3]? = some (Jvm.Cond.instantiable K kk)) (F : Fld Z h a O f d old) (E : Exa Z h a K) (hty : parseFieldDescriptor d = some ty) (hnv : narrow ty v = v') (hfv : fits ty v' = true) (ga : n0 ≤ a) (hd : decode bytes pc = .ok (.putfield idx, 3)) (hp : pc + 3 = pc')
    (hr : ∀ h', Wr h h' a (Jvm.RoadKit.slotOf Z O f d) v' → G h' k n pc' ls st) : G h k n pc ls (v :: .ref a :: st) := by
  obtain ⟨p, e, s, m, args, below, meth, c, hx, hby, hml, hown, hnm, hret, hlk, hZ, hw, rfl⟩ := C
  subst hp
  intro T locs X hT hF
  obtain ⟨T', h', X', e', W', s'⟩ := putFN X hx hZ hown (word hw w) Via.refl hT F E (w2.elim (fun q => Or.inl (word hw q)) (fun q => Or.inr ⟨word hw q.1, q.2.1, hnm.trans q.2.2⟩)) (word hw w3) hty hnv hfv (g := mkF m pc ls (v :: .ref a :: st)) rfl rfl (hb hby hd)
  obtain ⟨s₂, o, h1, h2⟩ := hr h' W' T' _ X' e' (Fr.snoc X' hF ga)
  exact ⟨s₂, o, s' _ h1, h2⟩
theorem Cx.initO (C : Cx G l Z a0 ws R y bytes maxL ret n0 Q) {i1 i2 i3 idx W : Nat} {a : Addr} (w1 : ws[i1]? = some (Jvm.Cond.methodLink y.cls idx Lib.objectInit)) (w2 : ws[i2]? = some (Jvm.Cond.instanceMethod Lib.objectInit)) (w3 : ws[i3]? = some (Jvm.Cond.code Lib.objectInit Jvm.LibCode.Object.Init0.code 1 none)) (hsz : ls.size = maxL) (hf : 1 ≤ R.frames) (hW : (st.map fun v => v.category).sum = W) (hl : W + 12 ≤ R.locals) (hd : decode bytes pc = .ok (.invokespecial idx, 3)) (hp : pc + 3 = pc') (hr : G h k n pc' ls st) : G h k n pc ls (.ref a :: st) := by
  obtain ⟨p, e, s, m, args, below, meth, c, hx, hby, hml, hown, hnm, hret, hlk, hZ, hw, rfl⟩ := C
  subst hp
  intro T locs X hT hF
  obtain ⟨T', X', e', s'⟩ := RoadKit.initO X hx hZ hown (word hw w1) (word hw w2) (word hw w3) hT (g := mkF m pc ls (.ref a :: st)) rfl (by rw [hml]; exact hsz) rfl (hb hby hd) hf (W := W) (by rw [← hW]; show 2 * 0 + _ ≤ _; omega) hl
  obtain ⟨s₂, o, h1, h2⟩ := hr T' _ X' e' hF
  exact ⟨s₂, o, s' _ h1, h2⟩
theorem Cx.callS (C : Cx G l Z a0 ws R y bytes maxL ret n0 Q) {y' : MethodName} {bytes' : ByteArray} {maxL' : Nat} {ret' : Option FieldType} {rm : Room} {as : Array Value} {Q' : Option Value → Heap → Prop} (hM : Ctr l Z y' bytes' maxL' ret' rm n0 as h Q' []) {i1 i2 i3 i4 idx W : Nat} (w1 : ws[i1]? = some (Jvm.Cond.methodLink y.cls idx y')) (w2 : ws[i2]? = some (Jvm.Cond.static y')) (w3 : ws[i3]? = some (Jvm.Cond.initialized y'.cls)) (w4 : ws[i4]? = some (Jvm.Cond.code y' bytes' maxL' ret'))
    (hy : y'.cls ≠ "java/lang/invoke/MethodHandle" ∧ y'.cls ≠ "java/lang/invoke/VarHandle") {argsL : List Value} {ps : List FieldType} {rt : Option FieldType} (hps : parseMethodDescriptor y'.desc = some ⟨ps, rt⟩) (hln : argsL.length = ps.length) (has : argsL.toArray = as) (hst : st = argsL.reverse ++ rest) (hsz : ls.size = maxL) (hW : (rest.map fun v => v.category).sum = W) (hf : rm.frames + 1 ≤ R.frames) (hl : W + (maxL' + 11) + rm.locals ≤ R.locals) (hc : k + rm.cells ≤ R.cells) (hn : n + rm.slots ≤ R.slots) (hd : decode bytes pc = .ok (.invokestatic idx, 3)) (hp : pc + 3 = pc') (hk' : k + rm.cells = k') (hn' : n + rm.slots = n')
    (hr : ∀ v h', Q' v h' → G h' k' n' pc' ls (v.toList ++ rest)) : G h k n pc ls st := by
  obtain ⟨p, e, s, m, args, below, meth, c, hx, hby, hml, hown, hnm, hret, hlk, hZ, hw, rfl⟩ := C
  subst hp has hst hk' hn'
  intro T locs X hT hF
  obtain ⟨v, _, ⟨T', L', k9, n9⟩, -, X', ⟨Lc, hQ, e1, e2, e3⟩, s'⟩ := Jvm.LawKit.callS X hx (y := y') hown (mvT hZ (word hw w1)) (mvT hZ (word hw w2)) (mvT hZ (word hw w3)) (mvT hZ (word hw w4)) hy (backOf (Q := fun v h L => Q' v h ∧ Fr n0 L) (W := W) hM hZ (word hw w4) (word hw w3) hf hl) (g := mkF m pc ls (argsL.reverse ++ rest)) rfl (by rw [hml]; exact hsz) (argsL := argsL) (rest := rest) (lenOf hps hln) rfl (by rw [← hW]; show 2 * 0 + _ ≤ _; omega) (hb hby hd) (fun _ _ => ⟨rfl, hT, hc, hn⟩)
  dsimp only [Pt.U, Pt.locs, Pt.cells, Pt.slots] at X' e1 e2 e3 s' hQ
  subst e1 e2 e3
  obtain ⟨s₂, o, h1, h2⟩ := hr v T'.heap hQ.1 T' _ X' rfl (Fr.app hF hQ.2)
  exact ⟨s₂, o, s' _ h1, h2⟩
theorem Cx.callI (C : Cx G l Z a0 ws R y bytes maxL ret n0 Q) {y' : MethodName} {bytes' : ByteArray} {maxL' : Nat} {rm : Room} {as : Array Value} {Q' : Option Value → Heap → Prop} {a : Addr} (hM : Ctr l Z y' bytes' maxL' none rm n0 as h Q' []) {i1 i2 i3 i4 idx W : Nat} (w1 : ws[i1]? = some (Jvm.Cond.methodLink y.cls idx y')) (w2 : ws[i2]? = some (Jvm.Cond.instanceMethod y')) (w3 : ws[i3]? = some (Jvm.Cond.initialized y'.cls)) (w4 : ws[i4]? = some (Jvm.Cond.code y' bytes' maxL' none)) (hi : y'.name = "<init>")
    (hy : y'.cls ≠ "java/lang/invoke/MethodHandle" ∧ y'.cls ≠ "java/lang/invoke/VarHandle") {argsL : List Value} {ps : List FieldType} {rt : Option FieldType} (hps : parseMethodDescriptor y'.desc = some ⟨ps, rt⟩) (hln : argsL.length = ps.length) (has : (.ref a :: argsL).toArray = as) (hst : st = argsL.reverse ++ .ref a :: rest) (hsz : ls.size = maxL) (hW : (rest.map fun v => v.category).sum = W) (hf : rm.frames + 1 ≤ R.frames) (hl : W + (maxL' + 11) + rm.locals ≤ R.locals) (hc : k + rm.cells ≤ R.cells) (hn : n + rm.slots ≤ R.slots) (hd : decode bytes pc = .ok (.invokespecial idx, 3)) (hp : pc + 3 = pc') (hk' : k + rm.cells = k') (hn' : n + rm.slots = n')
    (hr : ∀ v h', Q' v h' → G h' k' n' pc' ls (v.toList ++ rest)) : G h k n pc ls st := by
  obtain ⟨p, e, s, m, args, below, meth, c, hx, hby, hml, hown, hnm, hret, hlk, hZ, hw, rfl⟩ := C
  subst hp has hst hk' hn'
  intro T locs X hT hF
  obtain ⟨v, _, ⟨T', L', k9, n9⟩, -, X', ⟨Lc, hQ, e1, e2, e3⟩, s'⟩ := X.specialBack hx (y := y') hi hown (mvT hZ (word hw w1)) (mvT hZ (word hw w2)) (mvT hZ (word hw w4)) hy (backOf (Q := fun v h L => Q' v h ∧ Fr n0 L) (W := W) hM hZ (word hw w4) (word hw w3) hf hl) (g := mkF m pc ls (argsL.reverse ++ .ref a :: rest)) rfl (by rw [hml]; exact hsz) (Steps.refl _) (a := a) (argsL := argsL) (rest := rest) (lenOf hps hln) rfl (by rw [← hW]; show 2 * 0 + _ ≤ _; omega) (hb hby hd) (fun _ _ => ⟨rfl, hT, hc, hn⟩)
  dsimp only [Pt.U, Pt.locs, Pt.cells, Pt.slots] at X' e1 e2 e3 s' hQ
  subst e1 e2 e3
  obtain ⟨s₂, o, h1, h2⟩ := hr v T'.heap hQ.1 T' _ X' rfl (Fr.app hF hQ.2)
  exact ⟨s₂, o, s'.trans h1, h2⟩
theorem Cx.callV (C : Cx G l Z a0 ws R y bytes maxL ret n0 Q) {y' : MethodName} {bytes' : ByteArray} {maxL' : Nat} {ret' : Option FieldType} {rm : Room} {as : Array Value} {Q' : Option Value → Heap → Prop} {a : Addr} {K : String} (hM : Ctr l Z y' bytes' maxL' ret' rm n0 as h Q' []) (hE : Exa Z h a K) {i1 i2 i3 i4 i5 i6 idx W : Nat} (w1 : ws[i1]? = some (Jvm.Cond.methodLink y.cls idx y')) (w2 : ws[i2]? = some (Jvm.Cond.declares y')) (w3 : ws[i3]? = some (Jvm.Cond.instanceMethod y')) (w4 : ws[i4]? = some (Jvm.Cond.selects K y' y')) (w5 : ws[i5]? = some (Jvm.Cond.code y' bytes' maxL' ret')) (w6 : ws[i6]? = some (Jvm.Cond.initialized y'.cls))
    (hy : y'.cls ≠ "java/lang/invoke/MethodHandle" ∧ y'.cls ≠ "java/lang/invoke/VarHandle") {argsL : List Value} {ps : List FieldType} {rt : Option FieldType} (hps : parseMethodDescriptor y'.desc = some ⟨ps, rt⟩) (hln : argsL.length = ps.length) (has : (.ref a :: argsL).toArray = as) (hst : st = argsL.reverse ++ .ref a :: rest) (hsz : ls.size = maxL) (hW : (rest.map fun v => v.category).sum = W) (hf : rm.frames + 1 ≤ R.frames) (hl : W + (maxL' + 11) + rm.locals ≤ R.locals) (hc : k + rm.cells ≤ R.cells) (hn : n + rm.slots ≤ R.slots) (hd : decode bytes pc = .ok (.invokevirtual idx, 3)) (hp : pc + 3 = pc') (hk' : k + rm.cells = k') (hn' : n + rm.slots = n')
    (hr : ∀ v h', Q' v h' → G h' k' n' pc' ls (v.toList ++ rest)) : G h k n pc ls st := by
  obtain ⟨p, e, s, m, args, below, meth, c, hx, hby, hml, hown, hnm, hret, hlk, hZ, hw, rfl⟩ := C
  subst hp has hst hk' hn'
  intro T locs X hT hF
  obtain ⟨cq, kq, qa, qb, qc⟩ := isOf hZ hT hE
  obtain ⟨v, _, ⟨T', L', k9, n9⟩, -, X', ⟨Lc, hQ, e1, e2, e3⟩, s'⟩ := X.virtualBack hx (y := y') (z := y') hown (mvT hZ (word hw w1)) (mvT hZ (word hw w2)) (notFace_of_selects (args := #[]) (mvT hZ (word hw w4))) (mvT hZ (word hw w4)) (mvT hZ (word hw w3)) hy (backOf (Q := fun v h L => Q' v h ∧ Fr n0 L) (W := W) hM hZ (word hw w5) (word hw w6) hf hl) qa qc (g := mkF m pc ls (argsL.reverse ++ .ref a :: rest)) rfl (by rw [hml]; exact hsz) (Steps.refl _) (argsL := argsL) (rest := rest) (lenOf hps hln) rfl (by rw [← hW]; show 2 * 0 + _ ≤ _; omega) (hb hby hd) (fun _ _ => ⟨rfl, hT, hc, hn⟩)
  dsimp only [Pt.U, Pt.locs, Pt.cells, Pt.slots] at X' e1 e2 e3 s' hQ
  subst e1 e2 e3
  obtain ⟨s₂, o, h1, h2⟩ := hr v T'.heap hQ.1 T' _ X' rfl (Fr.app hF hQ.2)
  exact ⟨s₂, o, s'.trans h1, h2⟩
theorem Cx.callSP (C : Cx G l Z a0 ws R y bytes maxL ret n0 Q) {y' : MethodName} {bytes' : ByteArray} {maxL' : Nat} {ret' : Option FieldType} {rm : Room} {as : Array Value} {r : Value} (hM : Ctr l Z y' bytes' maxL' ret' rm n0 as h (fun v h' => v = some r ∧ h' = h) []) {i1 i2 i3 i4 idx W : Nat} (w1 : ws[i1]? = some (Jvm.Cond.methodLink y.cls idx y')) (w2 : ws[i2]? = some (Jvm.Cond.static y')) (w3 : ws[i3]? = some (Jvm.Cond.initialized y'.cls)) (w4 : ws[i4]? = some (Jvm.Cond.code y' bytes' maxL' ret'))
    (hy : y'.cls ≠ "java/lang/invoke/MethodHandle" ∧ y'.cls ≠ "java/lang/invoke/VarHandle") {argsL : List Value} {ps : List FieldType} {rt : Option FieldType} (hps : parseMethodDescriptor y'.desc = some ⟨ps, rt⟩) (hln : argsL.length = ps.length) (has : argsL.toArray = as) (hst : st = argsL.reverse ++ rest) (hsz : ls.size = maxL) (hW : (rest.map fun v => v.category).sum = W) (hf : rm.frames + 1 ≤ R.frames) (hl : W + (maxL' + 11) + rm.locals ≤ R.locals) (hc : k + rm.cells ≤ R.cells) (hn : n + rm.slots ≤ R.slots) (hd : decode bytes pc = .ok (.invokestatic idx, 3)) (hp : pc + 3 = pc') (hk' : k + rm.cells = k') (hn' : n + rm.slots = n')
    (hr : G h k' n' pc' ls (r :: rest)) : G h k n pc ls st :=
  C.callS hM w1 w2 w3 w4 hy hps hln has hst hsz hW hf hl hc hn hd hp hk' hn' (fun v h' q => by obtain ⟨rfl, rfl⟩ := q; exact hr)
theorem Cx.callVP (C : Cx G l Z a0 ws R y bytes maxL ret n0 Q) {y' : MethodName} {bytes' : ByteArray} {maxL' : Nat} {ret' : Option FieldType} {rm : Room} {as : Array Value} {r : Value} {a : Addr} {K : String} (hM : Ctr l Z y' bytes' maxL' ret' rm n0 as h (fun v h' => v = some r ∧ h' = h) []) (hE : Exa Z h a K) {i1 i2 i3 i4 i5 i6 idx W : Nat} (w1 : ws[i1]? = some (Jvm.Cond.methodLink y.cls idx y')) (w2 : ws[i2]? = some (Jvm.Cond.declares y')) (w3 : ws[i3]? = some (Jvm.Cond.instanceMethod y')) (w4 : ws[i4]? = some (Jvm.Cond.selects K y' y')) (w5 : ws[i5]? = some (Jvm.Cond.code y' bytes' maxL' ret')) (w6 : ws[i6]? = some (Jvm.Cond.initialized y'.cls))
    (hy : y'.cls ≠ "java/lang/invoke/MethodHandle" ∧ y'.cls ≠ "java/lang/invoke/VarHandle") {argsL : List Value} {ps : List FieldType} {rt : Option FieldType} (hps : parseMethodDescriptor y'.desc = some ⟨ps, rt⟩) (hln : argsL.length = ps.length) (has : (.ref a :: argsL).toArray = as) (hst : st = argsL.reverse ++ .ref a :: rest) (hsz : ls.size = maxL) (hW : (rest.map fun v => v.category).sum = W) (hf : rm.frames + 1 ≤ R.frames) (hl : W + (maxL' + 11) + rm.locals ≤ R.locals) (hc : k + rm.cells ≤ R.cells) (hn : n + rm.slots ≤ R.slots) (hd : decode bytes pc = .ok (.invokevirtual idx, 3)) (hp : pc + 3 = pc') (hk' : k + rm.cells = k') (hn' : n + rm.slots = n')
    (hr : G h k' n' pc' ls (r :: rest)) : G h k n pc ls st :=
  C.callV hM hE w1 w2 w3 w4 w5 w6 hy hps hln has hst hsz hW hf hl hc hn hd hp hk' hn' (fun v h' q => by obtain ⟨rfl, rfl⟩ := q; exact hr)
theorem Lst.arv {h : Heap} {a : Addr} {ty : FieldType} {vs : List Value} {z : Int32} {dv : Value} (F : Lst Z h a ty vs) (hz : Idx z vs.length) (hf : ∀ i, i < vs.length → fits ty (vs.getD i dv) = true) : ∃ kk, Arv Z h a kk ty z vs dv := by
  obtain ⟨c, A, r⟩ := F
  have hs : c.slots.size = vs.length := by rw [r]; simp
  refine ⟨c.cls, c, A, rfl, by rw [hs, hz.2], hz.1, fun i hi => ?_, fun i hi => hf i (by omega)⟩
  rw [r, List.getElem?_toArray, List.getD_eq_getElem?_getD, List.getElem?_eq_getElem (by omega)]; rfl
theorem Lst.of_arv {h : Heap} {a : Addr} {ty : FieldType} {vs : List Value} {z : Int32} {dv : Value} {kk : ClassId} (F : Arv Z h a kk ty z vs dv) (hz : Idx z vs.length) : Lst Z h a ty vs := by
  obtain ⟨c, A, -, hs, -, hh, -⟩ := F
  refine ⟨c, A, ?_⟩
  have hl : c.slots.size = vs.length := by rw [hs, hz.2]
  apply Array.ext
  · simpa using hl
  · intro i h1 h2
    have q := hh i h1
    rw [Array.getElem?_eq_getElem h1, List.getD_eq_getElem?_getD, List.getElem?_eq_getElem (by omega)] at q
    simpa using q
theorem Cx.arraycopy (C : Cx G l Z a0 ws R y bytes maxL ret n0 Q) {a b : Addr} {ty : FieldType} {vs vd us vs' : List Value} {sp dp nn za zb : Int32} {i j N W i1 i2 i3 i4 idx : Nat} {dv : Value} (w1 : ws[i1]? = some (Jvm.Cond.methodLink y.cls idx Jvm.Stand.acN)) (w2 : ws[i2]? = some (Jvm.Cond.native Jvm.Stand.acN)) (w3 : ws[i3]? = some (Jvm.Cond.static Jvm.Stand.acN)) (w4 : ws[i4]? = some (Jvm.Cond.initialized "java/lang/System"))
    (A : Lst Z h a ty vs) (B : Lst Z h b ty vd) (hA : Idx za vs.length) (hB : Idx zb vd.length) (fA : ∀ i, i < vs.length → fits ty (vs.getD i dv) = true) (fB : ∀ i, i < vd.length → fits ty (vd.getD i dv) = true) (hty : refKind ty = false) (hi : Idx sp i) (hj : Idx dp j) (hN : Idx nn N) (hl1 : i + N ≤ vs.length) (hl2 : j + N ≤ vd.length) (hus : (List.range N).map (fun x => vs.getD (i + x) dv) = us) (hvs : vd.take j ++ us ++ vd.drop (j + N) = vs') (ga : n0 ≤ b) (hsz : ls.size = maxL) (hf : 1 ≤ R.frames) (hW : (st.map fun v => v.category).sum = W) (hlo : W + (nativeFrameWords "java/lang/System" "arraycopy" 5 + 11) ≤ R.locals) (hd : decode bytes pc = .ok (.invokestatic idx, 3)) (hp : pc + 3 = pc')
    (hr : ∀ h', Keep h h' [b] → Lst Z h' b ty vs' → G h' k n pc' ls st) : G h k n pc ls (.int nn :: .int dp :: .ref b :: .int sp :: .ref a :: st) := by
  obtain ⟨p, e, s, m, args, below, meth, c, hx, hby, hml, hown, hnm, hret, hlk, hZ, hw, rfl⟩ := C
  subst hp hus hvs
  intro T locs X hT hF
  obtain ⟨ka, A'⟩ := A.arv hA fA
  obtain ⟨kb, B'⟩ := B.arv hB fB
  obtain ⟨T', h', L', X', e', F', K', V', s'⟩ := cpA X hx hZ hown (word hw w1) (word hw w2) (word hw w3) (word hw w4) hT A' B' (Or.inl ⟨rfl, hty⟩) hi.1 hj.1 hN.1 (by rw [hi.2, hN.2, hA.2]; exact hl1) (by rw [hj.2, hN.2, hB.2]; exact hl2) (us := (List.range N).map (fun x => vs.getD (i + x) dv)) (by rw [hi.2, hN.2]) (by rw [hj.2, hN.2]; exact hl2) hF ga (g := mkF m pc ls (.int nn :: .int dp :: .ref b :: .int sp :: .ref a :: st)) rfl (by rw [hml]; exact hsz) rfl (hb hby hd) hf (W := W) (by rw [← hW]; show 2 * 0 + _ ≤ _; omega) hlo
  rw [hj.2, hN.2] at V'
  obtain ⟨s₂, o, h1, h2⟩ := hr h' K' (Lst.of_arv V' ⟨hB.1, by rw [hB.2]; simp; omega⟩) T' _ X' e' F'
  exact ⟨s₂, o, s' _ h1, h2⟩
end Laws
end Jvm.GoKit
namespace Jvm.Pilot.@@N@@
open Jvm Jvm.ClassFile Sem Op Lib Jvm.Free Jvm.Stand Jvm.LawKit Jvm.RoadKit Jvm.GoKit Bundle Jvm.Pilot.@@N@@.Jvm.D
def own_L (xs : List Nat) : List Value := xs.map fun n => .int (Int32.ofNat n)
theorem own_Llen (xs : List Nat) : (own_L xs).length = xs.length := List.length_map _
theorem own_Lat {xs : List Nat} {i : Nat} (hi : i < xs.length) : (own_L xs)[i]? = some (.int (Int32.ofNat (xs.getD i 0))) := by
  unfold own_L; rw [List.getElem?_map, List.getD_eq_getElem?_getD, List.getElem?_eq_getElem hi]; rfl
theorem own_Lset (xs : List Nat) (i v : Nat) : (own_L xs).set i (.int (Int32.ofNat v)) = own_L (xs.set i v) := by unfold own_L; rw [List.map_set]
theorem own_idx {i : Nat} (h : i < 2147483648) : Idx (Int32.ofNat i) i := Idx.of (by rw [Int32.toInt_ofNat_of_lt (by omega)])
theorem own_lt {i j : Nat} (hi : i < 2147483648) (hj : j < 2147483648) : Int32.ofNat i < Int32.ofNat j ↔ i < j := by
  rw [Int32.lt_iff_toInt_lt, (own_idx hi).int, (own_idx hj).int]; omega
theorem own_eq {i j : Nat} (hi : i < 2147483648) (hj : j < 2147483648) : Int32.ofNat i = Int32.ofNat j ↔ i = j := by
  rw [← Int32.toInt_inj, (own_idx hi).int, (own_idx hj).int]; omega
theorem own_sub {i j : Nat} (h : j ≤ i) (hi : i < 2147483648) : Int32.ofNat i - Int32.ofNat j = Int32.ofNat (i - j) := by
  apply Int32.toInt_inj.mp
  have a := c_isub (Int32.ofNat i) (Int32.ofNat j); have b := rng32 (Int32.ofNat i - Int32.ofNat j)
  have c := (own_idx hi).int; have d := (own_idx (show j < 2147483648 by omega)).int; have e := (own_idx (show i - j < 2147483648 by omega)).int
  omega
theorem own_modn (x q : Int32) (d : Nat) (hq : q.toInt = (d : Int)) (hd : 0 < d) (hd2 : d < 100) : ∃ n : Nat, (x &&& 2147483647) % q = Int32.ofNat n ∧ n < d := by
  have a := c_mask x 2147483647 31 (by decide) (by decide)
  have b := (c_irem (x &&& 2147483647) q d hq).1 (by omega)
  have e1 := Int.emod_nonneg (x &&& 2147483647).toInt (show (d : Int) ≠ 0 by omega)
  have e2 := Int.emod_lt_of_pos (x &&& 2147483647).toInt (show (0 : Int) < d by omega)
  refine ⟨((x &&& 2147483647) % q).toInt.toNat, Int32.toInt_inj.mp ?_, by omega⟩
  rw [(own_idx (by omega)).int]; omega
def own_e (a b : Nat) : Nat := if a = b then 1 else 0
def own_ri (n : Nat) : Int32 := if n = 0 then -1 else Int32.ofNat n
theorem own_ri0 {n : Nat} (h : n < 100) : own_ri n < 0 ↔ n = 0 := by
  unfold own_ri
  by_cases e : n = 0
  · subst e; exact ⟨fun _ => rfl, fun _ => by decide⟩
  · rw [if_neg e]; exact ⟨fun q => absurd q (own_idx (by omega)).1, fun q => absurd q e⟩
def own_lc (u p2 p3 p4 : Nat) : Nat := if p4 = u then 4 else if p3 = u then 3 else if p2 = u then 2 else if u = 0 then 1 else 0
theorem own_lc5 (u p2 p3 p4 : Nat) : own_lc u p2 p3 p4 < 5 := by
  unfold own_lc
  repeat' split
  all_goals omega
def own_sp (x p2 p3 p4 : Nat) : Nat := if own_lc x p2 p3 p4 = 0 then x else own_lc x p2 p3 p4
theorem own_sp5 {x : Nat} (p2 p3 p4 : Nat) (h : x < 5) : own_sp x p2 p3 p4 < 5 := by
  unfold own_sp; split
  · exact h
  · exact own_lc5 _ _ _ _
def own_k0 (p2 p3 p4 : Nat) : Nat := ((1 + own_e p2 0) + own_e p3 0) + own_e p4 0
def own_k1 (p2 p3 p4 : Nat) : Nat := (own_e p2 1 + own_e p3 1) + own_e p4 1
def own_k2 (p2 p3 p4 : Nat) : Nat := own_e p3 2 + own_e p4 2
def own_s2 (p2 p3 p4 : Nat) : Nat := own_k0 p2 p3 p4 + own_k1 p2 p3 p4
def own_s3 (p2 p3 p4 : Nat) : Nat := own_s2 p2 p3 p4 + own_k2 p2 p3 p4
def own_s4 (p2 p3 p4 : Nat) : Nat := own_s3 p2 p3 p4 + own_e p4 3
abbrev own_xs (p2 p3 p4 : Nat) : List Nat := [0, own_k0 p2 p3 p4, own_s2 p2 p3 p4, own_s3 p2 p3 p4, own_s4 p2 p3 p4, own_s4 p2 p3 p4]
def own_q2 (p2 p3 p4 : Nat) : Nat := (own_xs p2 p3 p4).getD p2 0 + own_e 0 p2
def own_q3 (p2 p3 p4 : Nat) : Nat := ((own_xs p2 p3 p4).getD p3 0 + own_e 0 p3) + own_e p2 p3
def own_q4 (p2 p3 p4 : Nat) : Nat := (((own_xs p2 p3 p4).getD p4 0 + own_e 0 p4) + own_e p2 p4) + own_e p3 p4
def own_h2 (p2 p3 p4 : Nat) : List Nat := [1, 0, 0, 0].set (own_q2 p2 p3 p4) 2
def own_h3 (p2 p3 p4 : Nat) : List Nat := (own_h2 p2 p3 p4).set (own_q3 p2 p3 p4) 3
def own_h4 (p2 p3 p4 : Nat) : List Nat := (own_h3 p2 p3 p4).set (own_q4 p2 p3 p4) 4
theorem own_len2 (p2 p3 p4 : Nat) : (own_h2 p2 p3 p4).length = 4 := by unfold own_h2; rw [List.length_set]; rfl
theorem own_len3 (p2 p3 p4 : Nat) : (own_h3 p2 p3 p4).length = 4 := by unfold own_h3; rw [List.length_set, own_len2]
theorem own_len4 (p2 p3 p4 : Nat) : (own_h4 p2 p3 p4).length = 4 := by unfold own_h4; rw [List.length_set, own_len3]
def own_leaf (xs ys : List Nat) : Nat → Nat → Nat
  | 0, v => v
  | k + 1, v => if xs.getD v 0 < xs.getD (v + 1) 0 then own_leaf xs ys k (ys.getD (xs.getD (v + 1) 0 - 1) 0) else v
theorem own_dec : ∀ a : Fin 2, ∀ b : Fin 3, ∀ c : Fin 4, (own_q2 a.val b.val c.val < 4 ∧ own_q3 a.val b.val c.val < 4 ∧ own_q4 a.val b.val c.val < 4) ∧ (∀ v : Fin 6, (own_xs a.val b.val c.val).getD v.val 0 ≤ 4) ∧ (∀ i : Fin 4, (own_h4 a.val b.val c.val).getD i.val 0 < 5) ∧
    (∀ v : Fin 5, (own_xs a.val b.val c.val).getD v.val 0 < (own_xs a.val b.val c.val).getD (v.val + 1) 0 → v.val < (own_h4 a.val b.val c.val).getD ((own_xs a.val b.val c.val).getD (v.val + 1) 0 - 1) 0) ∧
    (∀ v : Fin 5, own_leaf (own_xs a.val b.val c.val) (own_h4 a.val b.val c.val) 5 v.val = own_sp (own_sp (own_sp (own_sp (own_sp v.val a.val b.val c.val) a.val b.val c.val) a.val b.val c.val) a.val b.val c.val) a.val b.val c.val) := by decide +kernel
theorem d1_0 : decode method_2_code 0 = .ok (.iload_n 0, 1) := by decide +kernel
theorem d1_1 : decode method_2_code 1 = .ok (.iload_n 1, 1) := by decide +kernel
theorem d1_2 : decode method_2_code 2 = .ok (.if_icmp .ne 7, 3) := by decide +kernel
theorem d1_5 : decode method_2_code 5 = .ok (.iconst 1, 1) := by decide +kernel
theorem d1_6 : decode method_2_code 6 = .ok (.goto 4, 3) := by decide +kernel
theorem d1_9 : decode method_2_code 9 = .ok (.iconst 0, 1) := by decide +kernel
theorem d1_10 : decode method_2_code 10 = .ok (.ireturn, 1) := by decide +kernel
theorem d2_0 : decode prog_7_method_1_code 0 = .ok (.aload_n 0, 1) := by decide +kernel
theorem d2_1 : decode prog_7_method_1_code 1 = .ok (.invokespecial 1, 3) := by decide +kernel
theorem d2_4 : decode prog_7_method_1_code 4 = .ok (.aload_n 0, 1) := by decide +kernel
theorem d2_5 : decode prog_7_method_1_code 5 = .ok (.aload_n 1, 1) := by decide +kernel
theorem d2_6 : decode prog_7_method_1_code 6 = .ok (.putfield 7, 3) := by decide +kernel
theorem d2_9 : decode prog_7_method_1_code 9 = .ok (.aload_n 0, 1) := by decide +kernel
theorem d2_10 : decode prog_7_method_1_code 10 = .ok (.aload_n 2, 1) := by decide +kernel
theorem d2_11 : decode prog_7_method_1_code 11 = .ok (.putfield 13, 3) := by decide +kernel
theorem d2_14 : decode prog_7_method_1_code 14 = .ok (.aload_n 0, 1) := by decide +kernel
theorem d2_15 : decode prog_7_method_1_code 15 = .ok (.aload_n 3, 1) := by decide +kernel
theorem d2_16 : decode prog_7_method_1_code 16 = .ok (.putfield 16, 3) := by decide +kernel
theorem d2_19 : decode prog_7_method_1_code 19 = .ok (.aload_n 0, 1) := by decide +kernel
theorem d2_20 : decode prog_7_method_1_code 20 = .ok (.aload_n 1, 1) := by decide +kernel
theorem d2_21 : decode prog_7_method_1_code 21 = .ok (.arraylength, 1) := by decide +kernel
theorem d2_22 : decode prog_7_method_1_code 22 = .ok (.iconst 1, 1) := by decide +kernel
theorem d2_23 : decode prog_7_method_1_code 23 = .ok (.isub, 1) := by decide +kernel
theorem d2_24 : decode prog_7_method_1_code 24 = .ok (.newarray .double, 2) := by decide +kernel
theorem d2_26 : decode prog_7_method_1_code 26 = .ok (.putfield 20, 3) := by decide +kernel
theorem d2_29 : decode prog_7_method_1_code 29 = .ok (.aload_n 0, 1) := by decide +kernel
theorem d2_30 : decode prog_7_method_1_code 30 = .ok (.aload_n 1, 1) := by decide +kernel
theorem d2_31 : decode prog_7_method_1_code 31 = .ok (.arraylength, 1) := by decide +kernel
theorem d2_32 : decode prog_7_method_1_code 32 = .ok (.iconst 1, 1) := by decide +kernel
theorem d2_33 : decode prog_7_method_1_code 33 = .ok (.isub, 1) := by decide +kernel
theorem d2_34 : decode prog_7_method_1_code 34 = .ok (.newarray .int, 2) := by decide +kernel
theorem d2_36 : decode prog_7_method_1_code 36 = .ok (.putfield 23, 3) := by decide +kernel
theorem d2_39 : decode prog_7_method_1_code 39 = .ok (.aload_n 0, 1) := by decide +kernel
theorem d2_40 : decode prog_7_method_1_code 40 = .ok (.aload_n 1, 1) := by decide +kernel
theorem d2_41 : decode prog_7_method_1_code 41 = .ok (.arraylength, 1) := by decide +kernel
theorem d2_42 : decode prog_7_method_1_code 42 = .ok (.iconst 1, 1) := by decide +kernel
theorem d2_43 : decode prog_7_method_1_code 43 = .ok (.isub, 1) := by decide +kernel
theorem d2_44 : decode prog_7_method_1_code 44 = .ok (.newarray .int, 2) := by decide +kernel
theorem d2_46 : decode prog_7_method_1_code 46 = .ok (.putfield 26, 3) := by decide +kernel
theorem d2_49 : decode prog_7_method_1_code 49 = .ok (.iconst 0, 1) := by decide +kernel
theorem d2_50 : decode prog_7_method_1_code 50 = .ok (.istore 4, 2) := by decide +kernel
theorem d2_52 : decode prog_7_method_1_code 52 = .ok (.iload 4, 2) := by decide +kernel
theorem d2_54 : decode prog_7_method_1_code 54 = .ok (.aload_n 0, 1) := by decide +kernel
theorem d2_55 : decode prog_7_method_1_code 55 = .ok (.getfield 26, 3) := by decide +kernel
theorem d2_58 : decode prog_7_method_1_code 58 = .ok (.arraylength, 1) := by decide +kernel
theorem d2_59 : decode prog_7_method_1_code 59 = .ok (.if_icmp .ge 43, 3) := by decide +kernel
theorem d2_62 : decode prog_7_method_1_code 62 = .ok (.aload_n 1, 1) := by decide +kernel
theorem d2_63 : decode prog_7_method_1_code 63 = .ok (.iload 4, 2) := by decide +kernel
theorem d2_65 : decode prog_7_method_1_code 65 = .ok (.iaload, 1) := by decide +kernel
theorem d2_66 : decode prog_7_method_1_code 66 = .ok (.istore 5, 2) := by decide +kernel
theorem d2_68 : decode prog_7_method_1_code 68 = .ok (.iload 5, 2) := by decide +kernel
theorem d2_70 : decode prog_7_method_1_code 70 = .ok (.aload_n 1, 1) := by decide +kernel
theorem d2_71 : decode prog_7_method_1_code 71 = .ok (.iload 4, 2) := by decide +kernel
theorem d2_73 : decode prog_7_method_1_code 73 = .ok (.iconst 1, 1) := by decide +kernel
theorem d2_74 : decode prog_7_method_1_code 74 = .ok (.iadd, 1) := by decide +kernel
theorem d2_75 : decode prog_7_method_1_code 75 = .ok (.iaload, 1) := by decide +kernel
theorem d2_76 : decode prog_7_method_1_code 76 = .ok (.if_icmp .ge 20, 3) := by decide +kernel
theorem d2_79 : decode prog_7_method_1_code 79 = .ok (.aload_n 0, 1) := by decide +kernel
theorem d2_80 : decode prog_7_method_1_code 80 = .ok (.getfield 26, 3) := by decide +kernel
theorem d2_83 : decode prog_7_method_1_code 83 = .ok (.aload_n 2, 1) := by decide +kernel
theorem d2_84 : decode prog_7_method_1_code 84 = .ok (.iload 5, 2) := by decide +kernel
theorem d2_86 : decode prog_7_method_1_code 86 = .ok (.iaload, 1) := by decide +kernel
theorem d2_87 : decode prog_7_method_1_code 87 = .ok (.iload 4, 2) := by decide +kernel
theorem d2_89 : decode prog_7_method_1_code 89 = .ok (.iastore, 1) := by decide +kernel
theorem d2_90 : decode prog_7_method_1_code 90 = .ok (.iinc 5 1, 3) := by decide +kernel
theorem d2_93 : decode prog_7_method_1_code 93 = .ok (.goto (-25), 3) := by decide +kernel
theorem d2_96 : decode prog_7_method_1_code 96 = .ok (.iinc 4 1, 3) := by decide +kernel
theorem d2_99 : decode prog_7_method_1_code 99 = .ok (.goto (-47), 3) := by decide +kernel
theorem d2_102 : decode prog_7_method_1_code 102 = .ok (.return_, 1) := by decide +kernel
theorem d4_0 : decode prog_7_method_6_code 0 = .ok (.iload_n 1, 1) := by decide +kernel
theorem d4_1 : decode prog_7_method_6_code 1 = .ok (.istore_n 2, 1) := by decide +kernel
theorem d4_2 : decode prog_7_method_6_code 2 = .ok (.aload_n 0, 1) := by decide +kernel
theorem d4_3 : decode prog_7_method_6_code 3 = .ok (.getfield 7, 3) := by decide +kernel
theorem d4_6 : decode prog_7_method_6_code 6 = .ok (.iload_n 2, 1) := by decide +kernel
theorem d4_7 : decode prog_7_method_6_code 7 = .ok (.iconst 1, 1) := by decide +kernel
theorem d4_8 : decode prog_7_method_6_code 8 = .ok (.iadd, 1) := by decide +kernel
theorem d4_9 : decode prog_7_method_6_code 9 = .ok (.iaload, 1) := by decide +kernel
theorem d4_10 : decode prog_7_method_6_code 10 = .ok (.aload_n 0, 1) := by decide +kernel
theorem d4_11 : decode prog_7_method_6_code 11 = .ok (.getfield 7, 3) := by decide +kernel
theorem d4_14 : decode prog_7_method_6_code 14 = .ok (.iload_n 2, 1) := by decide +kernel
theorem d4_15 : decode prog_7_method_6_code 15 = .ok (.iaload, 1) := by decide +kernel
theorem d4_16 : decode prog_7_method_6_code 16 = .ok (.if_icmp .le 22, 3) := by decide +kernel
theorem d4_19 : decode prog_7_method_6_code 19 = .ok (.aload_n 0, 1) := by decide +kernel
theorem d4_20 : decode prog_7_method_6_code 20 = .ok (.getfield 13, 3) := by decide +kernel
theorem d4_23 : decode prog_7_method_6_code 23 = .ok (.aload_n 0, 1) := by decide +kernel
theorem d4_24 : decode prog_7_method_6_code 24 = .ok (.getfield 7, 3) := by decide +kernel
theorem d4_27 : decode prog_7_method_6_code 27 = .ok (.iload_n 2, 1) := by decide +kernel
theorem d4_28 : decode prog_7_method_6_code 28 = .ok (.iconst 1, 1) := by decide +kernel
theorem d4_29 : decode prog_7_method_6_code 29 = .ok (.iadd, 1) := by decide +kernel
theorem d4_30 : decode prog_7_method_6_code 30 = .ok (.iaload, 1) := by decide +kernel
theorem d4_31 : decode prog_7_method_6_code 31 = .ok (.iconst 1, 1) := by decide +kernel
theorem d4_32 : decode prog_7_method_6_code 32 = .ok (.isub, 1) := by decide +kernel
theorem d4_33 : decode prog_7_method_6_code 33 = .ok (.iaload, 1) := by decide +kernel
theorem d4_34 : decode prog_7_method_6_code 34 = .ok (.istore_n 2, 1) := by decide +kernel
theorem d4_35 : decode prog_7_method_6_code 35 = .ok (.goto (-33), 3) := by decide +kernel
theorem d4_38 : decode prog_7_method_6_code 38 = .ok (.iload_n 2, 1) := by decide +kernel
theorem d4_39 : decode prog_7_method_6_code 39 = .ok (.ireturn, 1) := by decide +kernel
theorem d5_0 : decode method_4_code 0 = .ok (.iload_n 0, 1) := by decide +kernel
theorem d5_1 : decode method_4_code 1 = .ok (.iload_n 1, 1) := by decide +kernel
theorem d5_2 : decode method_4_code 2 = .ok (.iload_n 2, 1) := by decide +kernel
theorem d5_3 : decode method_4_code 3 = .ok (.iload_n 3, 1) := by decide +kernel
theorem d5_4 : decode method_4_code 4 = .ok (.invokestatic 7, 3) := by decide +kernel
theorem d5_7 : decode method_4_code 7 = .ok (.istore 4, 2) := by decide +kernel
theorem d5_9 : decode method_4_code 9 = .ok (.iload 4, 2) := by decide +kernel
theorem d5_11 : decode method_4_code 11 = .ok (.ifCond .ge 7, 3) := by decide +kernel
theorem d5_14 : decode method_4_code 14 = .ok (.iload_n 0, 1) := by decide +kernel
theorem d5_15 : decode method_4_code 15 = .ok (.goto 5, 3) := by decide +kernel
theorem d5_18 : decode method_4_code 18 = .ok (.iload 4, 2) := by decide +kernel
theorem d5_20 : decode method_4_code 20 = .ok (.ireturn, 1) := by decide +kernel
theorem d6_0 : decode method_3_code 0 = .ok (.iload_n 3, 1) := by decide +kernel
theorem d6_1 : decode method_3_code 1 = .ok (.iload_n 0, 1) := by decide +kernel
theorem d6_2 : decode method_3_code 2 = .ok (.if_icmp .ne 5, 3) := by decide +kernel
theorem d6_5 : decode method_3_code 5 = .ok (.iconst 4, 1) := by decide +kernel
theorem d6_6 : decode method_3_code 6 = .ok (.ireturn, 1) := by decide +kernel
theorem d6_7 : decode method_3_code 7 = .ok (.iload_n 2, 1) := by decide +kernel
theorem d6_8 : decode method_3_code 8 = .ok (.iload_n 0, 1) := by decide +kernel
theorem d6_9 : decode method_3_code 9 = .ok (.if_icmp .ne 5, 3) := by decide +kernel
theorem d6_12 : decode method_3_code 12 = .ok (.iconst 3, 1) := by decide +kernel
theorem d6_13 : decode method_3_code 13 = .ok (.ireturn, 1) := by decide +kernel
theorem d6_14 : decode method_3_code 14 = .ok (.iload_n 1, 1) := by decide +kernel
theorem d6_15 : decode method_3_code 15 = .ok (.iload_n 0, 1) := by decide +kernel
theorem d6_16 : decode method_3_code 16 = .ok (.if_icmp .ne 5, 3) := by decide +kernel
theorem d6_19 : decode method_3_code 19 = .ok (.iconst 2, 1) := by decide +kernel
theorem d6_20 : decode method_3_code 20 = .ok (.ireturn, 1) := by decide +kernel
theorem d6_21 : decode method_3_code 21 = .ok (.iload_n 0, 1) := by decide +kernel
theorem d6_22 : decode method_3_code 22 = .ok (.ifCond .ne 5, 3) := by decide +kernel
theorem d6_25 : decode method_3_code 25 = .ok (.iconst 1, 1) := by decide +kernel
theorem d6_26 : decode method_3_code 26 = .ok (.ireturn, 1) := by decide +kernel
theorem d6_27 : decode method_3_code 27 = .ok (.iconst (-1), 1) := by decide +kernel
theorem d6_28 : decode method_3_code 28 = .ok (.ireturn, 1) := by decide +kernel
theorem pd_0 : parseMethodDescriptor "(IIII)I" = some ⟨[.int, .int, .int, .int], some .int⟩ := by decide +kernel
theorem pd_1 : parseMethodDescriptor "(II)I" = some ⟨[.int, .int], some .int⟩ := by decide +kernel
theorem pd_2 : parseMethodDescriptor "([I[I[D)V" = some ⟨[(.array .int), (.array .int), (.array .double)], none⟩ := by decide +kernel
theorem pd_3 : parseMethodDescriptor "(I)I" = some ⟨[.int], some .int⟩ := by decide +kernel
set_option maxRecDepth 65536 in
set_option maxHeartbeats 4000000 in
theorem c_eq (l : Launch) (Z : State) (a0 : Array Value) (hw : ∀ d ∈ tables_1, d.before a0 Z = true) (wl : List Jvm.Cond) (n0 : Nat) (h : Heap) (a b : Nat) (ha : a < 100) (hb : b < 100) :
    Ctr l Z (⟨"com/example/few_slopes/fewslopes/drawing/TriangleLayoutLastLeafPinLaw", "eq", "(II)I"⟩ : MethodName) method_2_code 2 (some .int) ({ frames := 0, cells := 0, slots := 0, locals := 0 } : Room) n0 #[(.int (Int32.ofNat a)), (.int (Int32.ofNat b))] h (fun v h' => v = some (.int (Int32.ofNat (own_e a b))) ∧ h' = h) wl := by
  refine Ctr.of (ls := #[.val (.int (Int32.ofNat a)), .val (.int (Int32.ofNat b))]) (by first | (exact plainFor_of_name (by first | (simp [plainName, overriddenIn]; done) | decide +kernel)) | decide +kernel) hw (fun m => entry_eq m (L1 := [.val (.int (Int32.ofNat a)), .val (.int (Int32.ofNat b))]) (k := 0) rfl rfl rfl) (fun G C => ?_)
  refine C.iloadN d1_0 rfl (pc' := 1) rfl ?_
  refine C.iloadN d1_1 rfl (pc' := 2) rfl ?_
  refine C.icmp_ne d1_2 (by decide) (pc1 := 9) rfl (pc2 := 5) rfl (fun hc => ?_) (fun hc => ?_)
  · refine C.iconst d1_9 (v := 0) rfl (pc' := 10) rfl ?_
    exact C.ireturn d1_10 rfl (by decide) (by decide) ⟨by unfold own_e; rw [if_neg (fun q => hc ((own_eq (by omega) (by omega)).mpr q))]; rfl, rfl⟩
  · refine C.iconst d1_5 (v := 1) rfl (pc' := 6) rfl ?_
    refine C.goto d1_6 (by decide) (pc' := 10) rfl ?_
    exact C.ireturn d1_10 rfl (by decide) (by decide) ⟨by unfold own_e; rw [if_pos ((own_eq (by omega) (by omega)).mp hc)]; rfl, rfl⟩
set_option maxRecDepth 65536 in
set_option maxHeartbeats 4000000 in
theorem c_lc (l : Launch) (Z : State) (a0 : Array Value) (hw : ∀ d ∈ tables_1, d.before a0 Z = true) (wl : List Jvm.Cond) (n0 : Nat) (h : Heap) (u p2 p3 p4 : Nat) (hu : u < 100) (h2 : p2 < 100) (h3 : p3 < 100) (h4 : p4 < 100) :
    Ctr l Z (⟨"com/example/few_slopes/fewslopes/drawing/TriangleLayoutLastLeafPinLaw", "lastChild", "(IIII)I"⟩ : MethodName) method_3_code 4 (some .int) ({ frames := 0, cells := 0, slots := 0, locals := 0 } : Room) n0 #[(.int (Int32.ofNat u)), (.int (Int32.ofNat p2)), (.int (Int32.ofNat p3)), (.int (Int32.ofNat p4))] h (fun v h' => v = some (.int (own_ri (own_lc u p2 p3 p4))) ∧ h' = h) wl := by
  refine Ctr.of (ls := #[.val (.int (Int32.ofNat u)), .val (.int (Int32.ofNat p2)), .val (.int (Int32.ofNat p3)), .val (.int (Int32.ofNat p4))]) (by first | (exact plainFor_of_name (by first | (simp [plainName, overriddenIn]; done) | decide +kernel)) | decide +kernel) hw (fun m => entry_eq m (L1 := [.val (.int (Int32.ofNat u)), .val (.int (Int32.ofNat p2)), .val (.int (Int32.ofNat p3)), .val (.int (Int32.ofNat p4))]) (k := 0) rfl rfl rfl) (fun G C => ?_)
  refine C.iloadN d6_0 rfl (pc' := 1) rfl ?_
  refine C.iloadN d6_1 rfl (pc' := 2) rfl ?_
  refine C.icmp_ne d6_2 (by decide) (pc1 := 7) rfl (pc2 := 5) rfl (fun q4 => ?_) (fun q4 => ?_)
  · refine C.iloadN d6_7 rfl (pc' := 8) rfl ?_
    refine C.iloadN d6_8 rfl (pc' := 9) rfl ?_
    refine C.icmp_ne d6_9 (by decide) (pc1 := 14) rfl (pc2 := 12) rfl (fun q3 => ?_) (fun q3 => ?_)
    · refine C.iloadN d6_14 rfl (pc' := 15) rfl ?_
      refine C.iloadN d6_15 rfl (pc' := 16) rfl ?_
      refine C.icmp_ne d6_16 (by decide) (pc1 := 21) rfl (pc2 := 19) rfl (fun q2 => ?_) (fun q2 => ?_)
      · refine C.iloadN d6_21 rfl (pc' := 22) rfl ?_
        refine C.if_ne d6_22 (by decide) (pc1 := 27) rfl (pc2 := 25) rfl (fun q1 => ?_) (fun q1 => ?_)
        · refine C.iconst d6_27 (v := -1) rfl (pc' := 28) rfl ?_
          exact C.ireturn d6_28 rfl (by decide) (by decide) ⟨by unfold own_lc; rw [if_neg (fun z => q4 ((own_eq (by omega) (by omega)).mpr z)), if_neg (fun z => q3 ((own_eq (by omega) (by omega)).mpr z)), if_neg (fun z => q2 ((own_eq (by omega) (by omega)).mpr z)), if_neg (fun z => q1 ((own_eq (i := u) (j := 0) (by omega) (by decide)).mpr z))]; rfl, rfl⟩
        · refine C.iconst d6_25 (v := 1) rfl (pc' := 26) rfl ?_
          exact C.ireturn d6_26 rfl (by decide) (by decide) ⟨by unfold own_lc; rw [if_neg (fun z => q4 ((own_eq (by omega) (by omega)).mpr z)), if_neg (fun z => q3 ((own_eq (by omega) (by omega)).mpr z)), if_neg (fun z => q2 ((own_eq (by omega) (by omega)).mpr z)), if_pos ((own_eq (i := u) (j := 0) (by omega) (by decide)).mp q1)]; rfl, rfl⟩
      · refine C.iconst d6_19 (v := 2) rfl (pc' := 20) rfl ?_
        exact C.ireturn d6_20 rfl (by decide) (by decide) ⟨by unfold own_lc; rw [if_neg (fun z => q4 ((own_eq (by omega) (by omega)).mpr z)), if_neg (fun z => q3 ((own_eq (by omega) (by omega)).mpr z)), if_pos ((own_eq (by omega) (by omega)).mp q2)]; rfl, rfl⟩
    · refine C.iconst d6_12 (v := 3) rfl (pc' := 13) rfl ?_
      exact C.ireturn d6_13 rfl (by decide) (by decide) ⟨by unfold own_lc; rw [if_neg (fun z => q4 ((own_eq (by omega) (by omega)).mpr z)), if_pos ((own_eq (by omega) (by omega)).mp q3)]; rfl, rfl⟩
  · refine C.iconst d6_5 (v := 4) rfl (pc' := 6) rfl ?_
    exact C.ireturn d6_6 rfl (by decide) (by decide) ⟨by unfold own_lc; rw [if_pos ((own_eq (by omega) (by omega)).mp q4)]; rfl, rfl⟩
set_option maxRecDepth 65536 in
set_option maxHeartbeats 4000000 in
theorem c_step (l : Launch) (Z : State) (a0 : Array Value) (hw : ∀ d ∈ tables_1, d.before a0 Z = true) (wl : List Jvm.Cond) (n0 : Nat) (h : Heap) (u p2 p3 p4 : Nat) (hu : u < 100) (h2 : p2 < 100) (h3 : p3 < 100) (h4 : p4 < 100) :
    Ctr l Z (⟨"com/example/few_slopes/fewslopes/drawing/TriangleLayoutLastLeafPinLaw", "step", "(IIII)I"⟩ : MethodName) method_4_code 5 (some .int) ({ frames := 1, cells := 0, slots := 0, locals := 15 } : Room) n0 #[(.int (Int32.ofNat u)), (.int (Int32.ofNat p2)), (.int (Int32.ofNat p3)), (.int (Int32.ofNat p4))] h (fun v h' => v = some (.int (Int32.ofNat (own_sp u p2 p3 p4))) ∧ h' = h) wl := by
  refine Ctr.of (ls := #[.val (.int (Int32.ofNat u)), .val (.int (Int32.ofNat p2)), .val (.int (Int32.ofNat p3)), .val (.int (Int32.ofNat p4)), .unset]) (by first | (exact plainFor_of_name (by first | (simp [plainName, overriddenIn]; done) | decide +kernel)) | decide +kernel) hw (fun m => entry_eq m (L1 := [.val (.int (Int32.ofNat u)), .val (.int (Int32.ofNat p2)), .val (.int (Int32.ofNat p3)), .val (.int (Int32.ofNat p4))]) (k := 1) rfl rfl rfl) (fun G C => ?_)
  have r := own_lc5 u p2 p3 p4
  refine C.iloadN d5_0 rfl (pc' := 1) rfl ?_
  refine C.iloadN d5_1 rfl (pc' := 2) rfl ?_
  refine C.iloadN d5_2 rfl (pc' := 3) rfl ?_
  refine C.iloadN d5_3 rfl (pc' := 4) rfl ?_
  refine C.callSP (c_lc l Z a0 hw [] n0 h u p2 p3 p4 hu h2 h3 h4) (i1 := 37) (i2 := 38) (i3 := 3) (i4 := 39) rfl rfl rfl rfl (by decide) pd_0 rfl (argsL := [(.int (Int32.ofNat u)), (.int (Int32.ofNat p2)), (.int (Int32.ofNat p3)), (.int (Int32.ofNat p4))]) rfl (rest := []) rfl rfl (W := 0) rfl (by decide) (by decide) (by decide) (by decide) d5_4 (pc' := 7) rfl (k' := 0) rfl (n' := 0) rfl ?_
  refine C.istore d5_7 (ls' := #[.val (.int (Int32.ofNat u)), .val (.int (Int32.ofNat p2)), .val (.int (Int32.ofNat p3)), .val (.int (Int32.ofNat p4)), .val (.int (own_ri (own_lc u p2 p3 p4)))]) rfl (pc' := 9) rfl ?_
  refine C.iload d5_9 rfl (pc' := 11) rfl ?_
  refine C.if_ge d5_11 (by decide) (pc1 := 18) rfl (pc2 := 14) rfl (fun hc => ?_) (fun hc => ?_)
  · refine C.iload d5_18 rfl (pc' := 20) rfl ?_
    exact C.ireturn d5_20 rfl (by decide) (by decide) ⟨by unfold own_sp; rw [if_neg (fun z => hc ((own_ri0 (by omega)).mpr z))]; unfold own_ri; rw [if_neg (fun z => hc ((own_ri0 (by omega)).mpr z))], rfl⟩
  · refine C.iloadN d5_14 rfl (pc' := 15) rfl ?_
    refine C.goto d5_15 (by decide) (pc' := 20) rfl ?_
    exact C.ireturn d5_20 rfl (by decide) (by decide) ⟨by unfold own_sp; rw [if_pos ((own_ri0 (by omega)).mp hc)], rfl⟩
set_option maxRecDepth 65536 in
set_option maxHeartbeats 4000000 in
theorem c_tri (l : Launch) (Z : State) (a0 : Array Value) (hw : ∀ d ∈ tables_1, d.before a0 Z = true) (wl : List Jvm.Cond) (n0 : Nat) (h : Heap) (a c d e : Addr) (xs ys : List Nat) (hz : n0 ≤ h.size) (g_a : n0 ≤ a) (ne_ac : a ≠ c) (ne_ad : a ≠ d) (E_a : Exa Z h a "com/example/few_slopes/fewslopes/drawing/TriangleLayout") (F_childStart : Fld Z h a "com/example/few_slopes/fewslopes/drawing/TriangleLayout" "childStart" "[I" .null) (F_children : Fld Z h a "com/example/few_slopes/fewslopes/drawing/TriangleLayout" "children" "[I" .null) (F_fractions : Fld Z h a "com/example/few_slopes/fewslopes/drawing/TriangleLayout" "fractions" "[D" .null) (F_widths : Fld Z h a "com/example/few_slopes/fewslopes/drawing/TriangleLayout" "widths" "[D" .null) (F_slopes : Fld Z h a "com/example/few_slopes/fewslopes/drawing/TriangleLayout" "slopes" "[I" .null) (F_parents : Fld Z h a "com/example/few_slopes/fewslopes/drawing/TriangleLayout" "parents" "[I" .null) (V_c : Lst Z h c .int (own_L xs)) (V_d : Lst Z h d .int (own_L ys)) (hx : xs.length = 6) (hxy : ∀ v, v ≤ 5 → xs.getD v 0 ≤ ys.length) (hyn : ∀ i, i < ys.length → ys.getD i 0 < 5) (hy : ys.length < 100) :
    Ctr l Z (⟨"com/example/few_slopes/fewslopes/drawing/TriangleLayout", "<init>", "([I[I[D)V"⟩ : MethodName) prog_7_method_1_code 6 none ({ frames := 1, cells := 3, slots := 15, locals := 12 } : Room) n0 #[(.ref a), (.ref c), (.ref d), (.ref e)] h (fun v h' => v = none ∧ Keep h h' [a] ∧ Fld Z h' a "com/example/few_slopes/fewslopes/drawing/TriangleLayout" "childStart" "[I" (.ref c) ∧ Fld Z h' a "com/example/few_slopes/fewslopes/drawing/TriangleLayout" "children" "[I" (.ref d)) wl := by
  refine Ctr.of (ls := #[.val (.ref a), .val (.ref c), .val (.ref d), .val (.ref e), .unset, .unset]) (by first | (exact plainFor_of_name (by first | (simp [plainName, overriddenIn]; done) | decide +kernel)) | decide +kernel) hw (fun m => entry_eq m (L1 := [.val (.ref a), .val (.ref c), .val (.ref d), .val (.ref e)]) (k := 2) rfl rfl rfl) (fun G C => ?_)
  have K := Keep.refl h [a]
  refine C.aloadN d2_0 rfl (pc' := 1) rfl ?_
  refine C.initO (i1 := 14) (i2 := 15) (i3 := 16) rfl rfl rfl rfl (by decide) (W := 0) rfl (by decide) d2_1 (pc' := 4) rfl ?_
  refine C.aloadN d2_4 rfl (pc' := 5) rfl ?_
  refine C.aloadN d2_5 rfl (pc' := 6) rfl ?_
  refine C.putfield (i := 17) (i2 := 18) (i3 := 9) rfl (Or.inr ⟨rfl, rfl, rfl⟩) rfl F_childStart E_a (ty := (.array .int)) (by decide) (v' := (.ref c)) rfl rfl g_a d2_6 (pc' := 9) rfl ?_
  intro h1 W2
  have E_a := E_a.wr W2
  have F_childStart := F_childStart.same W2
  have F_children := F_children.other W2 (Or.inr (slot_ne (Or.inr (hw _ (List.mem_of_getElem? (i := 20) rfl))) (Or.inr (hw _ (List.mem_of_getElem? (i := 18) rfl))) (by decide) (t := (.array .int)) (t' := (.array .int)) (by decide) (by decide)))
  have F_fractions := F_fractions.other W2 (Or.inr (slot_ne (Or.inr (hw _ (List.mem_of_getElem? (i := 22) rfl))) (Or.inr (hw _ (List.mem_of_getElem? (i := 18) rfl))) (by decide) (t := (.array .double)) (t' := (.array .int)) (by decide) (by decide)))
  have F_widths := F_widths.other W2 (Or.inr (slot_ne (Or.inr (hw _ (List.mem_of_getElem? (i := 24) rfl))) (Or.inr (hw _ (List.mem_of_getElem? (i := 18) rfl))) (by decide) (t := (.array .double)) (t' := (.array .int)) (by decide) (by decide)))
  have F_slopes := F_slopes.other W2 (Or.inr (slot_ne (Or.inr (hw _ (List.mem_of_getElem? (i := 26) rfl))) (Or.inr (hw _ (List.mem_of_getElem? (i := 18) rfl))) (by decide) (t := (.array .int)) (t' := (.array .int)) (by decide) (by decide)))
  have F_parents := F_parents.other W2 (Or.inr (slot_ne (Or.inr (hw _ (List.mem_of_getElem? (i := 28) rfl))) (Or.inr (hw _ (List.mem_of_getElem? (i := 18) rfl))) (by decide) (t := (.array .int)) (t' := (.array .int)) (by decide) (by decide)))
  have V_c := V_c.other W2 ne_ac.symm
  have V_d := V_d.other W2 ne_ad.symm
  have hz : n0 ≤ _ := Nat.le_trans hz (Nat.le_of_eq W2.size.symm)
  have K := K.wr W2 (Or.inl (by simp))
  refine C.aloadN d2_9 rfl (pc' := 10) rfl ?_
  refine C.aloadN d2_10 rfl (pc' := 11) rfl ?_
  refine C.putfield (i := 19) (i2 := 20) (i3 := 9) rfl (Or.inr ⟨rfl, rfl, rfl⟩) rfl F_children E_a (ty := (.array .int)) (by decide) (v' := (.ref d)) rfl rfl g_a d2_11 (pc' := 14) rfl ?_
  intro h3 W4
  have E_a := E_a.wr W4
  have F_childStart := F_childStart.other W4 (Or.inr (slot_ne (Or.inr (hw _ (List.mem_of_getElem? (i := 18) rfl))) (Or.inr (hw _ (List.mem_of_getElem? (i := 20) rfl))) (by decide) (t := (.array .int)) (t' := (.array .int)) (by decide) (by decide)))
  have F_children := F_children.same W4
  have F_fractions := F_fractions.other W4 (Or.inr (slot_ne (Or.inr (hw _ (List.mem_of_getElem? (i := 22) rfl))) (Or.inr (hw _ (List.mem_of_getElem? (i := 20) rfl))) (by decide) (t := (.array .double)) (t' := (.array .int)) (by decide) (by decide)))
  have F_widths := F_widths.other W4 (Or.inr (slot_ne (Or.inr (hw _ (List.mem_of_getElem? (i := 24) rfl))) (Or.inr (hw _ (List.mem_of_getElem? (i := 20) rfl))) (by decide) (t := (.array .double)) (t' := (.array .int)) (by decide) (by decide)))
  have F_slopes := F_slopes.other W4 (Or.inr (slot_ne (Or.inr (hw _ (List.mem_of_getElem? (i := 26) rfl))) (Or.inr (hw _ (List.mem_of_getElem? (i := 20) rfl))) (by decide) (t := (.array .int)) (t' := (.array .int)) (by decide) (by decide)))
  have F_parents := F_parents.other W4 (Or.inr (slot_ne (Or.inr (hw _ (List.mem_of_getElem? (i := 28) rfl))) (Or.inr (hw _ (List.mem_of_getElem? (i := 20) rfl))) (by decide) (t := (.array .int)) (t' := (.array .int)) (by decide) (by decide)))
  have V_c := V_c.other W4 ne_ac.symm
  have V_d := V_d.other W4 ne_ad.symm
  have hz : n0 ≤ _ := Nat.le_trans hz (Nat.le_of_eq W4.size.symm)
  have K := K.wr W4 (Or.inl (by simp))
  refine C.aloadN d2_14 rfl (pc' := 15) rfl ?_
  refine C.aloadN d2_15 rfl (pc' := 16) rfl ?_
  refine C.putfield (i := 21) (i2 := 22) (i3 := 9) rfl (Or.inr ⟨rfl, rfl, rfl⟩) rfl F_fractions E_a (ty := (.array .double)) (by decide) (v' := (.ref e)) rfl rfl g_a d2_16 (pc' := 19) rfl ?_
  intro h5 W6
  have E_a := E_a.wr W6
  have F_childStart := F_childStart.other W6 (Or.inr (slot_ne (Or.inr (hw _ (List.mem_of_getElem? (i := 18) rfl))) (Or.inr (hw _ (List.mem_of_getElem? (i := 22) rfl))) (by decide) (t := (.array .int)) (t' := (.array .double)) (by decide) (by decide)))
  have F_children := F_children.other W6 (Or.inr (slot_ne (Or.inr (hw _ (List.mem_of_getElem? (i := 20) rfl))) (Or.inr (hw _ (List.mem_of_getElem? (i := 22) rfl))) (by decide) (t := (.array .int)) (t' := (.array .double)) (by decide) (by decide)))
  have F_fractions := F_fractions.same W6
  have F_widths := F_widths.other W6 (Or.inr (slot_ne (Or.inr (hw _ (List.mem_of_getElem? (i := 24) rfl))) (Or.inr (hw _ (List.mem_of_getElem? (i := 22) rfl))) (by decide) (t := (.array .double)) (t' := (.array .double)) (by decide) (by decide)))
  have F_slopes := F_slopes.other W6 (Or.inr (slot_ne (Or.inr (hw _ (List.mem_of_getElem? (i := 26) rfl))) (Or.inr (hw _ (List.mem_of_getElem? (i := 22) rfl))) (by decide) (t := (.array .int)) (t' := (.array .double)) (by decide) (by decide)))
  have F_parents := F_parents.other W6 (Or.inr (slot_ne (Or.inr (hw _ (List.mem_of_getElem? (i := 28) rfl))) (Or.inr (hw _ (List.mem_of_getElem? (i := 22) rfl))) (by decide) (t := (.array .int)) (t' := (.array .double)) (by decide) (by decide)))
  have V_c := V_c.other W6 ne_ac.symm
  have V_d := V_d.other W6 ne_ad.symm
  have hz : n0 ≤ _ := Nat.le_trans hz (Nat.le_of_eq W6.size.symm)
  have K := K.wr W6 (Or.inl (by simp))
  refine C.aloadN d2_19 rfl (pc' := 20) rfl ?_
  refine C.aloadN d2_20 rfl (pc' := 21) rfl ?_
  refine C.arraylength V_c (N := (6 : Int32)) (by rw [own_Llen, hx]; rfl) d2_21 (pc' := 22) rfl ?_
  refine C.iconst d2_22 (v := 1) rfl (pc' := 23) rfl ?_
  refine C.isub d2_23 (pc' := 24) rfl ?_
  refine castI (show ((6 : Int32) - (1 : Int32)) = (5 : Int32) from by decide) ?_
  refine C.newarray (w := 6) (ty := .double) rfl rfl (N := 5) ⟨by decide, by decide⟩ (d := (.double 0)) rfl (vs := [(.double 0), (.double 0), (.double 0), (.double 0), (.double 0)]) rfl (cap := 5) (by decide) (by decide) (by decide) (by decide) d2_24 (pc' := 26) rfl ?_
  intro h7 o8 q9 E10 V_o8
  have ne_a_o8 : a ≠ o8 := Nat.ne_of_lt (Nat.lt_of_lt_of_le E_a.lt (Nat.le_of_eq q9.symm))
  have ne_c_o8 : c ≠ o8 := Nat.ne_of_lt (Nat.lt_of_lt_of_le V_c.lt (Nat.le_of_eq q9.symm))
  have ne_d_o8 : d ≠ o8 := Nat.ne_of_lt (Nat.lt_of_lt_of_le V_d.lt (Nat.le_of_eq q9.symm))
  have E_a := E_a.ext E10
  have F_childStart := F_childStart.ext E10
  have F_children := F_children.ext E10
  have F_fractions := F_fractions.ext E10
  have F_widths := F_widths.ext E10
  have F_slopes := F_slopes.ext E10
  have F_parents := F_parents.ext E10
  have V_c := V_c.ext E10
  have V_d := V_d.ext E10
  have g_o8 : n0 ≤ o8 := Nat.le_trans hz (Nat.le_of_eq q9.symm)
  have hz := Nat.le_trans hz E10.1
  have sz_o8 : h.size ≤ o8 := Nat.le_trans K.1 (Nat.le_of_eq q9.symm)
  have K := K.ext E10
  refine C.putfield (i := 23) (i2 := 24) (i3 := 9) rfl (Or.inr ⟨rfl, rfl, rfl⟩) rfl F_widths E_a (ty := (.array .double)) (by decide) (v' := (.ref o8)) rfl rfl g_a d2_26 (pc' := 29) rfl ?_
  intro h11 W12
  have E_a := E_a.wr W12
  have F_childStart := F_childStart.other W12 (Or.inr (slot_ne (Or.inr (hw _ (List.mem_of_getElem? (i := 18) rfl))) (Or.inr (hw _ (List.mem_of_getElem? (i := 24) rfl))) (by decide) (t := (.array .int)) (t' := (.array .double)) (by decide) (by decide)))
  have F_children := F_children.other W12 (Or.inr (slot_ne (Or.inr (hw _ (List.mem_of_getElem? (i := 20) rfl))) (Or.inr (hw _ (List.mem_of_getElem? (i := 24) rfl))) (by decide) (t := (.array .int)) (t' := (.array .double)) (by decide) (by decide)))
  have F_fractions := F_fractions.other W12 (Or.inr (slot_ne (Or.inr (hw _ (List.mem_of_getElem? (i := 22) rfl))) (Or.inr (hw _ (List.mem_of_getElem? (i := 24) rfl))) (by decide) (t := (.array .double)) (t' := (.array .double)) (by decide) (by decide)))
  have F_widths := F_widths.same W12
  have F_slopes := F_slopes.other W12 (Or.inr (slot_ne (Or.inr (hw _ (List.mem_of_getElem? (i := 26) rfl))) (Or.inr (hw _ (List.mem_of_getElem? (i := 24) rfl))) (by decide) (t := (.array .int)) (t' := (.array .double)) (by decide) (by decide)))
  have F_parents := F_parents.other W12 (Or.inr (slot_ne (Or.inr (hw _ (List.mem_of_getElem? (i := 28) rfl))) (Or.inr (hw _ (List.mem_of_getElem? (i := 24) rfl))) (by decide) (t := (.array .int)) (t' := (.array .double)) (by decide) (by decide)))
  have V_c := V_c.other W12 ne_ac.symm
  have V_d := V_d.other W12 ne_ad.symm
  have V_o8 := V_o8.other W12 ne_a_o8.symm
  have hz : n0 ≤ _ := Nat.le_trans hz (Nat.le_of_eq W12.size.symm)
  have K := K.wr W12 (Or.inl (by simp))
  refine C.aloadN d2_29 rfl (pc' := 30) rfl ?_
  refine C.aloadN d2_30 rfl (pc' := 31) rfl ?_
  refine C.arraylength V_c (N := (6 : Int32)) (by rw [own_Llen, hx]; rfl) d2_31 (pc' := 32) rfl ?_
  refine C.iconst d2_32 (v := 1) rfl (pc' := 33) rfl ?_
  refine C.isub d2_33 (pc' := 34) rfl ?_
  refine castI (show ((6 : Int32) - (1 : Int32)) = (5 : Int32) from by decide) ?_
  refine C.newarray (w := 5) (ty := .int) rfl rfl (N := 5) ⟨by decide, by decide⟩ (d := (.int (0 : Int32))) rfl (vs := [(.int (0 : Int32)), (.int (0 : Int32)), (.int (0 : Int32)), (.int (0 : Int32)), (.int (0 : Int32))]) rfl (cap := 5) (by decide) (by decide) (by decide) (by decide) d2_34 (pc' := 36) rfl ?_
  intro h13 o14 q15 E16 V_o14
  have ne_a_o14 : a ≠ o14 := Nat.ne_of_lt (Nat.lt_of_lt_of_le E_a.lt (Nat.le_of_eq q15.symm))
  have ne_c_o14 : c ≠ o14 := Nat.ne_of_lt (Nat.lt_of_lt_of_le V_c.lt (Nat.le_of_eq q15.symm))
  have ne_d_o14 : d ≠ o14 := Nat.ne_of_lt (Nat.lt_of_lt_of_le V_d.lt (Nat.le_of_eq q15.symm))
  have ne_o8_o14 : o8 ≠ o14 := Nat.ne_of_lt (Nat.lt_of_lt_of_le V_o8.lt (Nat.le_of_eq q15.symm))
  have E_a := E_a.ext E16
  have F_childStart := F_childStart.ext E16
  have F_children := F_children.ext E16
  have F_fractions := F_fractions.ext E16
  have F_widths := F_widths.ext E16
  have F_slopes := F_slopes.ext E16
  have F_parents := F_parents.ext E16
  have V_c := V_c.ext E16
  have V_d := V_d.ext E16
  have V_o8 := V_o8.ext E16
  have g_o14 : n0 ≤ o14 := Nat.le_trans hz (Nat.le_of_eq q15.symm)
  have hz := Nat.le_trans hz E16.1
  have sz_o14 : h.size ≤ o14 := Nat.le_trans K.1 (Nat.le_of_eq q15.symm)
  have K := K.ext E16
  refine C.putfield (i := 25) (i2 := 26) (i3 := 9) rfl (Or.inr ⟨rfl, rfl, rfl⟩) rfl F_slopes E_a (ty := (.array .int)) (by decide) (v' := (.ref o14)) rfl rfl g_a d2_36 (pc' := 39) rfl ?_
  intro h17 W18
  have E_a := E_a.wr W18
  have F_childStart := F_childStart.other W18 (Or.inr (slot_ne (Or.inr (hw _ (List.mem_of_getElem? (i := 18) rfl))) (Or.inr (hw _ (List.mem_of_getElem? (i := 26) rfl))) (by decide) (t := (.array .int)) (t' := (.array .int)) (by decide) (by decide)))
  have F_children := F_children.other W18 (Or.inr (slot_ne (Or.inr (hw _ (List.mem_of_getElem? (i := 20) rfl))) (Or.inr (hw _ (List.mem_of_getElem? (i := 26) rfl))) (by decide) (t := (.array .int)) (t' := (.array .int)) (by decide) (by decide)))
  have F_fractions := F_fractions.other W18 (Or.inr (slot_ne (Or.inr (hw _ (List.mem_of_getElem? (i := 22) rfl))) (Or.inr (hw _ (List.mem_of_getElem? (i := 26) rfl))) (by decide) (t := (.array .double)) (t' := (.array .int)) (by decide) (by decide)))
  have F_widths := F_widths.other W18 (Or.inr (slot_ne (Or.inr (hw _ (List.mem_of_getElem? (i := 24) rfl))) (Or.inr (hw _ (List.mem_of_getElem? (i := 26) rfl))) (by decide) (t := (.array .double)) (t' := (.array .int)) (by decide) (by decide)))
  have F_slopes := F_slopes.same W18
  have F_parents := F_parents.other W18 (Or.inr (slot_ne (Or.inr (hw _ (List.mem_of_getElem? (i := 28) rfl))) (Or.inr (hw _ (List.mem_of_getElem? (i := 26) rfl))) (by decide) (t := (.array .int)) (t' := (.array .int)) (by decide) (by decide)))
  have V_c := V_c.other W18 ne_ac.symm
  have V_d := V_d.other W18 ne_ad.symm
  have V_o8 := V_o8.other W18 ne_a_o8.symm
  have V_o14 := V_o14.other W18 ne_a_o14.symm
  have hz : n0 ≤ _ := Nat.le_trans hz (Nat.le_of_eq W18.size.symm)
  have K := K.wr W18 (Or.inl (by simp))
  refine C.aloadN d2_39 rfl (pc' := 40) rfl ?_
  refine C.aloadN d2_40 rfl (pc' := 41) rfl ?_
  refine C.arraylength V_c (N := (6 : Int32)) (by rw [own_Llen, hx]; rfl) d2_41 (pc' := 42) rfl ?_
  refine C.iconst d2_42 (v := 1) rfl (pc' := 43) rfl ?_
  refine C.isub d2_43 (pc' := 44) rfl ?_
  refine castI (show ((6 : Int32) - (1 : Int32)) = (5 : Int32) from by decide) ?_
  refine C.newarray (w := 5) (ty := .int) rfl rfl (N := 5) ⟨by decide, by decide⟩ (d := (.int (0 : Int32))) rfl (vs := [(.int (0 : Int32)), (.int (0 : Int32)), (.int (0 : Int32)), (.int (0 : Int32)), (.int (0 : Int32))]) rfl (cap := 5) (by decide) (by decide) (by decide) (by decide) d2_44 (pc' := 46) rfl ?_
  intro h19 o20 q21 E22 V_o20
  have ne_a_o20 : a ≠ o20 := Nat.ne_of_lt (Nat.lt_of_lt_of_le E_a.lt (Nat.le_of_eq q21.symm))
  have ne_c_o20 : c ≠ o20 := Nat.ne_of_lt (Nat.lt_of_lt_of_le V_c.lt (Nat.le_of_eq q21.symm))
  have ne_d_o20 : d ≠ o20 := Nat.ne_of_lt (Nat.lt_of_lt_of_le V_d.lt (Nat.le_of_eq q21.symm))
  have ne_o14_o20 : o14 ≠ o20 := Nat.ne_of_lt (Nat.lt_of_lt_of_le V_o14.lt (Nat.le_of_eq q21.symm))
  have ne_o8_o20 : o8 ≠ o20 := Nat.ne_of_lt (Nat.lt_of_lt_of_le V_o8.lt (Nat.le_of_eq q21.symm))
  have E_a := E_a.ext E22
  have F_childStart := F_childStart.ext E22
  have F_children := F_children.ext E22
  have F_fractions := F_fractions.ext E22
  have F_widths := F_widths.ext E22
  have F_slopes := F_slopes.ext E22
  have F_parents := F_parents.ext E22
  have V_c := V_c.ext E22
  have V_d := V_d.ext E22
  have V_o8 := V_o8.ext E22
  have V_o14 := V_o14.ext E22
  have g_o20 : n0 ≤ o20 := Nat.le_trans hz (Nat.le_of_eq q21.symm)
  have hz := Nat.le_trans hz E22.1
  have sz_o20 : h.size ≤ o20 := Nat.le_trans K.1 (Nat.le_of_eq q21.symm)
  have K := K.ext E22
  refine C.putfield (i := 27) (i2 := 28) (i3 := 9) rfl (Or.inr ⟨rfl, rfl, rfl⟩) rfl F_parents E_a (ty := (.array .int)) (by decide) (v' := (.ref o20)) rfl rfl g_a d2_46 (pc' := 49) rfl ?_
  intro h23 W24
  have E_a := E_a.wr W24
  have F_childStart := F_childStart.other W24 (Or.inr (slot_ne (Or.inr (hw _ (List.mem_of_getElem? (i := 18) rfl))) (Or.inr (hw _ (List.mem_of_getElem? (i := 28) rfl))) (by decide) (t := (.array .int)) (t' := (.array .int)) (by decide) (by decide)))
  have F_children := F_children.other W24 (Or.inr (slot_ne (Or.inr (hw _ (List.mem_of_getElem? (i := 20) rfl))) (Or.inr (hw _ (List.mem_of_getElem? (i := 28) rfl))) (by decide) (t := (.array .int)) (t' := (.array .int)) (by decide) (by decide)))
  have F_fractions := F_fractions.other W24 (Or.inr (slot_ne (Or.inr (hw _ (List.mem_of_getElem? (i := 22) rfl))) (Or.inr (hw _ (List.mem_of_getElem? (i := 28) rfl))) (by decide) (t := (.array .double)) (t' := (.array .int)) (by decide) (by decide)))
  have F_widths := F_widths.other W24 (Or.inr (slot_ne (Or.inr (hw _ (List.mem_of_getElem? (i := 24) rfl))) (Or.inr (hw _ (List.mem_of_getElem? (i := 28) rfl))) (by decide) (t := (.array .double)) (t' := (.array .int)) (by decide) (by decide)))
  have F_slopes := F_slopes.other W24 (Or.inr (slot_ne (Or.inr (hw _ (List.mem_of_getElem? (i := 26) rfl))) (Or.inr (hw _ (List.mem_of_getElem? (i := 28) rfl))) (by decide) (t := (.array .int)) (t' := (.array .int)) (by decide) (by decide)))
  have F_parents := F_parents.same W24
  have V_c := V_c.other W24 ne_ac.symm
  have V_d := V_d.other W24 ne_ad.symm
  have V_o8 := V_o8.other W24 ne_a_o8.symm
  have V_o14 := V_o14.other W24 ne_a_o14.symm
  have V_o20 := V_o20.other W24 ne_a_o20.symm
  have hz : n0 ≤ _ := Nat.le_trans hz (Nat.le_of_eq W24.size.symm)
  have K := K.wr W24 (Or.inl (by simp))
  refine C.iconst d2_49 (v := 0) rfl (pc' := 50) rfl ?_
  refine C.istore d2_50 (ls' := #[.val (.ref a), .val (.ref c), .val (.ref d), .val (.ref e), .val (.int (0 : Int32)), .unset]) rfl (pc' := 52) rfl ?_
  have hps : ([(.int (0 : Int32)), (.int (0 : Int32)), (.int (0 : Int32)), (.int (0 : Int32)), (.int (0 : Int32))] : List Value).length = 5 := rfl
  have loopO : ∀ (m v : Nat) (s5 : Slot) (hh : Heap) (ps : List Value), 5 - v = m → v ≤ 5 → One s5 → n0 ≤ hh.size → Keep h hh [a] → Exa Z hh a "com/example/few_slopes/fewslopes/drawing/TriangleLayout" → Fld Z hh a "com/example/few_slopes/fewslopes/drawing/TriangleLayout" "childStart" "[I" (.ref c) → Fld Z hh a "com/example/few_slopes/fewslopes/drawing/TriangleLayout" "children" "[I" (.ref d) → Fld Z hh a "com/example/few_slopes/fewslopes/drawing/TriangleLayout" "parents" "[I" (.ref o20) → Lst Z hh c .int (own_L xs) → Lst Z hh d .int (own_L ys) → Lst Z hh o20 .int ps → ps.length = 5 → G hh 3 15 52 #[.val (.ref a), .val (.ref c), .val (.ref d), .val (.ref e), .val (.int (Int32.ofNat v)), s5] [] := by
    intro m
    induction m with
    | zero =>
      intro v s5 hh ps hm hv hs5 hz K E_a F_childStart F_children F_parents V_c V_d V_o20 hps
      refine C.iload d2_52 rfl (pc' := 54) rfl ?_
      refine C.aloadN d2_54 rfl (pc' := 55) rfl ?_
      refine C.getfield (i := 27) rfl F_parents d2_55 (pc' := 58) rfl ?_
      refine C.arraylength V_o20 (N := (5 : Int32)) (by rw [hps]; rfl) d2_58 (pc' := 59) rfl ?_
      refine C.icmp_ge_T d2_59 (fun q => absurd ((own_lt (i := v) (j := 5) (by omega) (by decide)).mp q) (by omega)) (by decide) (pc' := 102) rfl ?_
      exact C.vreturn d2_102 rfl (by decide) (by decide) ⟨rfl, K, F_childStart, F_children⟩
    | succ m ih =>
      intro v s5 hh ps hm hv hs5 hz K E_a F_childStart F_children F_parents V_c V_d V_o20 hps
      have b1 := hxy v (by omega)
      have b2 := hxy (v + 1) (by omega)
      refine C.iload d2_52 rfl (pc' := 54) rfl ?_
      refine C.aloadN d2_54 rfl (pc' := 55) rfl ?_
      refine C.getfield (i := 27) rfl F_parents d2_55 (pc' := 58) rfl ?_
      refine C.arraylength V_o20 (N := (5 : Int32)) (by rw [hps]; rfl) d2_58 (pc' := 59) rfl ?_
      refine C.icmp_ge_F d2_59 ((own_lt (i := v) (j := 5) (by omega) (by decide)).mpr (by omega)) (pc' := 62) rfl ?_
      refine C.aloadN d2_62 rfl (pc' := 63) rfl ?_
      refine C.iload d2_63 rfl (pc' := 65) rfl ?_
      refine C.iaload V_c (i := v) (own_idx (by omega)) (v := (.int (Int32.ofNat (xs.getD v 0)))) (own_Lat (by omega)) d2_65 (pc' := 66) rfl ?_
      refine C.istore d2_66 (ls' := #[.val (.ref a), .val (.ref c), .val (.ref d), .val (.ref e), .val (.int (Int32.ofNat v)), .val (.int (Int32.ofNat (xs.getD v 0)))]) (by rcases hs5 with rfl | ⟨w, rfl, hw⟩ <;> first | rfl | (cases w <;> first | rfl | (simp [Value.category] at hw))) (pc' := 68) rfl ?_
      have loopI : ∀ (r i : Nat) (hh : Heap) (ps : List Value), xs.getD (v + 1) 0 - i = r → i ≤ ys.length → n0 ≤ hh.size → Keep h hh [a] → Exa Z hh a "com/example/few_slopes/fewslopes/drawing/TriangleLayout" → Fld Z hh a "com/example/few_slopes/fewslopes/drawing/TriangleLayout" "childStart" "[I" (.ref c) → Fld Z hh a "com/example/few_slopes/fewslopes/drawing/TriangleLayout" "children" "[I" (.ref d) → Fld Z hh a "com/example/few_slopes/fewslopes/drawing/TriangleLayout" "parents" "[I" (.ref o20) → Lst Z hh c .int (own_L xs) → Lst Z hh d .int (own_L ys) → Lst Z hh o20 .int ps → ps.length = 5 → G hh 3 15 68 #[.val (.ref a), .val (.ref c), .val (.ref d), .val (.ref e), .val (.int (Int32.ofNat v)), .val (.int (Int32.ofNat i))] [] := by
        intro r
        induction r with
        | zero =>
          intro i hh ps hr hi hz K E_a F_childStart F_children F_parents V_c V_d V_o20 hps
          refine C.iload d2_68 rfl (pc' := 70) rfl ?_
          refine C.aloadN d2_70 rfl (pc' := 71) rfl ?_
          refine C.iload d2_71 rfl (pc' := 73) rfl ?_
          refine C.iconst d2_73 (v := 1) rfl (pc' := 74) rfl ?_
          refine C.iadd d2_74 (pc' := 75) rfl ?_
          refine castI (show ((Int32.ofNat v) + (1 : Int32)) = (Int32.ofNat (v + 1)) from (Int32.ofNat_add v 1).symm) ?_
          refine C.iaload V_c (i := (v + 1)) (own_idx (by omega)) (v := (.int (Int32.ofNat (xs.getD (v + 1) 0)))) (own_Lat (by omega)) d2_75 (pc' := 76) rfl ?_
          refine C.icmp_ge_T d2_76 (fun q => absurd ((own_lt (by omega) (by omega)).mp q) (by omega)) (by decide) (pc' := 96) rfl ?_
          refine C.iinc d2_96 (v := 1) rfl rfl (ls' := #[.val (.ref a), .val (.ref c), .val (.ref d), .val (.ref e), .val (.int (Int32.ofNat (v + 1))), .val (.int (Int32.ofNat i))]) (by rw [show Int32.ofNat v + 1 = Int32.ofNat (v + 1) from (Int32.ofNat_add v 1).symm]; rfl) (pc' := 99) rfl ?_
          refine C.goto d2_99 (by decide) (pc' := 52) rfl ?_
          exact ih (v + 1) _ hh ps (by omega) (by omega) (One.val rfl) hz K E_a F_childStart F_children F_parents V_c V_d V_o20 hps
        | succ r ihr =>
          intro i hh ps hr hi hz K E_a F_childStart F_children F_parents V_c V_d V_o20 hps
          have b3 := hyn i (by omega)
          refine C.iload d2_68 rfl (pc' := 70) rfl ?_
          refine C.aloadN d2_70 rfl (pc' := 71) rfl ?_
          refine C.iload d2_71 rfl (pc' := 73) rfl ?_
          refine C.iconst d2_73 (v := 1) rfl (pc' := 74) rfl ?_
          refine C.iadd d2_74 (pc' := 75) rfl ?_
          refine castI (show ((Int32.ofNat v) + (1 : Int32)) = (Int32.ofNat (v + 1)) from (Int32.ofNat_add v 1).symm) ?_
          refine C.iaload V_c (i := (v + 1)) (own_idx (by omega)) (v := (.int (Int32.ofNat (xs.getD (v + 1) 0)))) (own_Lat (by omega)) d2_75 (pc' := 76) rfl ?_
          refine C.icmp_ge_F d2_76 ((own_lt (by omega) (by omega)).mpr (by omega)) (pc' := 79) rfl ?_
          refine C.aloadN d2_79 rfl (pc' := 80) rfl ?_
          refine C.getfield (i := 27) rfl F_parents d2_80 (pc' := 83) rfl ?_
          refine C.aloadN d2_83 rfl (pc' := 84) rfl ?_
          refine C.iload d2_84 rfl (pc' := 86) rfl ?_
          refine C.iaload V_d (i := i) (own_idx (by omega)) (v := (.int (Int32.ofNat (ys.getD i 0)))) (own_Lat (by omega)) d2_86 (pc' := 87) rfl ?_
          refine C.iload d2_87 rfl (pc' := 89) rfl ?_
          refine C.iastore V_o20 (i := (ys.getD i 0)) (own_idx (by omega)) (by omega) (vs' := (ps.set (ys.getD i 0) (.int (Int32.ofNat v)))) rfl g_o20 d2_89 (pc' := 90) rfl ?_
          intro h25 W26 V_o20
          have E_a := E_a.wr W26
          have F_childStart := F_childStart.other W26 (Or.inl ne_a_o20)
          have F_children := F_children.other W26 (Or.inl ne_a_o20)
          have F_parents := F_parents.other W26 (Or.inl ne_a_o20)
          have V_c := V_c.other W26 ne_c_o20
          have V_d := V_d.other W26 ne_d_o20
          have hz : n0 ≤ _ := Nat.le_trans hz (Nat.le_of_eq W26.size.symm)
          have K := K.wr W26 (Or.inr sz_o20)
          refine C.iinc d2_90 (v := 1) rfl rfl (ls' := #[.val (.ref a), .val (.ref c), .val (.ref d), .val (.ref e), .val (.int (Int32.ofNat v)), .val (.int (Int32.ofNat (i + 1)))]) (by rw [show Int32.ofNat i + 1 = Int32.ofNat (i + 1) from (Int32.ofNat_add i 1).symm]; rfl) (pc' := 93) rfl ?_
          refine C.goto d2_93 (by decide) (pc' := 68) rfl ?_
          exact ihr (i + 1) _ _ (by omega) (by omega) hz K E_a F_childStart F_children F_parents V_c V_d V_o20 (by rw [List.length_set]; exact hps)
      exact loopI _ (xs.getD v 0) _ _ rfl b1 hz K E_a F_childStart F_children F_parents V_c V_d V_o20 hps
  exact loopO _ 0 .unset _ _ rfl (by omega) One.u hz K E_a F_childStart F_children F_parents V_c V_d V_o20 hps
set_option maxRecDepth 65536 in
set_option maxHeartbeats 4000000 in
theorem c_leaf (l : Launch) (Z : State) (a0 : Array Value) (hw : ∀ d ∈ tables_1, d.before a0 Z = true) (wl : List Jvm.Cond) (n0 : Nat) (h : Heap) (a c d : Addr) (xs ys : List Nat) (v0 : Nat) (FA : Fld Z h a "com/example/few_slopes/fewslopes/drawing/TriangleLayout" "childStart" "[I" (.ref c)) (FB : Fld Z h a "com/example/few_slopes/fewslopes/drawing/TriangleLayout" "children" "[I" (.ref d)) (V_c : Lst Z h c .int (own_L xs)) (V_d : Lst Z h d .int (own_L ys)) (hv0 : v0 < 5) (hx : xs.length = 6) (hxy : ∀ v, v ≤ 5 → xs.getD v 0 ≤ ys.length) (hyn : ∀ i, i < ys.length → ys.getD i 0 < 5) (hy : ys.length < 100) (hup : ∀ v, v < 5 → xs.getD v 0 < xs.getD (v + 1) 0 → v < ys.getD (xs.getD (v + 1) 0 - 1) 0) :
    Ctr l Z (⟨"com/example/few_slopes/fewslopes/drawing/TriangleLayout", "lastLeaf", "(I)I"⟩ : MethodName) prog_7_method_6_code 3 (some .int) ({ frames := 0, cells := 0, slots := 0, locals := 0 } : Room) n0 #[(.ref a), (.int (Int32.ofNat v0))] h (fun v h' => v = some (.int (Int32.ofNat (own_leaf xs ys 5 v0))) ∧ h' = h) wl := by
  refine Ctr.of (ls := #[.val (.ref a), .val (.int (Int32.ofNat v0)), .unset]) (by first | (exact plainFor_of_name (by first | (simp [plainName, overriddenIn]; done) | decide +kernel)) | decide +kernel) hw (fun m => entry_eq m (L1 := [.val (.ref a), .val (.int (Int32.ofNat v0))]) (k := 1) rfl rfl rfl) (fun G C => ?_)
  refine C.iloadN d4_0 rfl (pc' := 1) rfl ?_
  refine C.istoreN d4_1 (ls' := #[.val (.ref a), .val (.int (Int32.ofNat v0)), .val (.int (Int32.ofNat v0))]) rfl (pc' := 2) rfl ?_
  have loop : ∀ (m v : Nat), 5 - v ≤ m → v < 5 → own_leaf xs ys 5 v0 = own_leaf xs ys m v → G h 0 0 2 #[.val (.ref a), .val (.int (Int32.ofNat v0)), .val (.int (Int32.ofNat v))] [] := by
    intro m
    induction m with
    | zero =>
      intro v hm
      omega
    | succ m ih =>
      intro v hm hv hR
      have hR' : own_leaf xs ys 5 v0 = (if xs.getD v 0 < xs.getD (v + 1) 0 then own_leaf xs ys m (ys.getD (xs.getD (v + 1) 0 - 1) 0) else v) := hR
      have b1 := hxy v (by omega)
      have b2 := hxy (v + 1) (by omega)
      have b3 := hup v hv
      refine C.aloadN d4_2 rfl (pc' := 3) rfl ?_
      refine C.getfield (i := 17) rfl FA d4_3 (pc' := 6) rfl ?_
      refine C.iloadN d4_6 rfl (pc' := 7) rfl ?_
      refine C.iconst d4_7 (v := 1) rfl (pc' := 8) rfl ?_
      refine C.iadd d4_8 (pc' := 9) rfl ?_
      refine castI (show ((Int32.ofNat v) + (1 : Int32)) = (Int32.ofNat (v + 1)) from (Int32.ofNat_add v 1).symm) ?_
      refine C.iaload V_c (i := (v + 1)) (own_idx (by omega)) (v := (.int (Int32.ofNat (xs.getD (v + 1) 0)))) (own_Lat (by omega)) d4_9 (pc' := 10) rfl ?_
      refine C.aloadN d4_10 rfl (pc' := 11) rfl ?_
      refine C.getfield (i := 17) rfl FA d4_11 (pc' := 14) rfl ?_
      refine C.iloadN d4_14 rfl (pc' := 15) rfl ?_
      refine C.iaload V_c (i := v) (own_idx (by omega)) (v := (.int (Int32.ofNat (xs.getD v 0)))) (own_Lat (by omega)) d4_15 (pc' := 16) rfl ?_
      refine C.icmp_le d4_16 (by decide) (pc1 := 38) rfl (pc2 := 19) rfl (fun h1 => ?_) (fun h1 => ?_)
      · refine C.iloadN d4_38 rfl (pc' := 39) rfl ?_
        exact C.ireturn d4_39 rfl (by decide) (by decide) ⟨by rw [hR', if_neg (fun q => h1 ((own_lt (by omega) (by omega)).mpr q))], rfl⟩
      · have h1' := (own_lt (by omega) (by omega)).mp h1
        rw [if_pos h1'] at hR'
        have b4 := b3 h1'
        have b5 := hyn (xs.getD (v + 1) 0 - 1) (by omega)
        refine C.aloadN d4_19 rfl (pc' := 20) rfl ?_
        refine C.getfield (i := 19) rfl FB d4_20 (pc' := 23) rfl ?_
        refine C.aloadN d4_23 rfl (pc' := 24) rfl ?_
        refine C.getfield (i := 17) rfl FA d4_24 (pc' := 27) rfl ?_
        refine C.iloadN d4_27 rfl (pc' := 28) rfl ?_
        refine C.iconst d4_28 (v := 1) rfl (pc' := 29) rfl ?_
        refine C.iadd d4_29 (pc' := 30) rfl ?_
        refine castI (show ((Int32.ofNat v) + (1 : Int32)) = (Int32.ofNat (v + 1)) from (Int32.ofNat_add v 1).symm) ?_
        refine C.iaload V_c (i := (v + 1)) (own_idx (by omega)) (v := (.int (Int32.ofNat (xs.getD (v + 1) 0)))) (own_Lat (by omega)) d4_30 (pc' := 31) rfl ?_
        refine C.iconst d4_31 (v := 1) rfl (pc' := 32) rfl ?_
        refine C.isub d4_32 (pc' := 33) rfl ?_
        refine castI (show ((Int32.ofNat (xs.getD (v + 1) 0)) - (1 : Int32)) = (Int32.ofNat (xs.getD (v + 1) 0 - 1)) from own_sub (j := 1) (by omega) (by omega)) ?_
        refine C.iaload V_d (i := (xs.getD (v + 1) 0 - 1)) (own_idx (by omega)) (v := (.int (Int32.ofNat (ys.getD (xs.getD (v + 1) 0 - 1) 0)))) (own_Lat (by omega)) d4_33 (pc' := 34) rfl ?_
        refine C.istoreN d4_34 (ls' := #[.val (.ref a), .val (.int (Int32.ofNat v0)), .val (.int (Int32.ofNat (ys.getD (xs.getD (v + 1) 0 - 1) 0)))]) rfl (pc' := 35) rfl ?_
        refine C.goto d4_35 (by decide) (pc' := 2) rfl ?_
        exact ih (ys.getD (xs.getD (v + 1) 0 - 1) 0) (by omega) b5 hR'
  exact loop 5 v0 (by omega) hv0 rfl
set_option maxRecDepth 65536 in
set_option maxHeartbeats 4000000 in
theorem c_law (l : Launch) (Z : State) (a0 : Array Value) (hw : ∀ d ∈ tables_1, d.before a0 Z = true) (wl : List Jvm.Cond) (n0 : Nat) (h : Heap) (b c d e : Int32) (hz : n0 ≤ h.size) :
    Ctr l Z x code maxLocals ret room_1 n0 #[(.int b), (.int c), (.int d), (.int e)] h (fun v _ => v = some (.int 1)) wl := by
  refine Ctr.of (ls := #[.val (.int b), .val (.int c), .val (.int d), .val (.int e), .unset, .unset, .unset, .unset, .unset, .unset, .unset, .unset, .unset, .unset, .unset, .unset, .unset, .unset, .unset, .unset, .unset, .unset, .unset, .unset, .unset]) (by first | (exact plainFor_of_name (by first | (simp [plainName, overriddenIn]; done) | decide +kernel)) | decide +kernel) hw (fun m => entry_eq m (L1 := [.val (.int b), .val (.int c), .val (.int d), .val (.int e)]) (k := 21) rfl rfl rfl) (fun G C => ?_)
  obtain ⟨p2, qp2, lp2⟩ := own_modn b 2 2 rfl (by decide) (by decide)
  obtain ⟨p3, qp3, lp3⟩ := own_modn c 3 3 rfl (by decide) (by decide)
  obtain ⟨p4, qp4, lp4⟩ := own_modn d 4 4 rfl (by decide) (by decide)
  obtain ⟨v, qv, lv⟩ := own_modn e 5 5 rfl (by decide) (by decide)
  refine C.iloadN at_0 rfl (pc' := 1) rfl ?_
  refine C.ldcI (i := 0) rfl at_1 (pc' := 3) rfl ?_
  refine C.iand at_3 (pc' := 4) rfl ?_
  refine C.iconst at_4 (v := 2) rfl (pc' := 5) rfl ?_
  refine C.irem at_5 (by decide) (pc' := 6) rfl ?_
  refine castI (show ((b &&& (2147483647 : Int32)) % (2 : Int32)) = (Int32.ofNat p2) from qp2) ?_
  refine C.istore at_6 (ls' := #[.val (.int b), .val (.int c), .val (.int d), .val (.int e), .val (.int (Int32.ofNat p2)), .unset, .unset, .unset, .unset, .unset, .unset, .unset, .unset, .unset, .unset, .unset, .unset, .unset, .unset, .unset, .unset, .unset, .unset, .unset, .unset]) rfl (pc' := 8) rfl ?_
  refine C.iloadN at_8 rfl (pc' := 9) rfl ?_
  refine C.ldcI (i := 0) rfl at_9 (pc' := 11) rfl ?_
  refine C.iand at_11 (pc' := 12) rfl ?_
  refine C.iconst at_12 (v := 3) rfl (pc' := 13) rfl ?_
  refine C.irem at_13 (by decide) (pc' := 14) rfl ?_
  refine castI (show ((c &&& (2147483647 : Int32)) % (3 : Int32)) = (Int32.ofNat p3) from qp3) ?_
  refine C.istore at_14 (ls' := #[.val (.int b), .val (.int c), .val (.int d), .val (.int e), .val (.int (Int32.ofNat p2)), .val (.int (Int32.ofNat p3)), .unset, .unset, .unset, .unset, .unset, .unset, .unset, .unset, .unset, .unset, .unset, .unset, .unset, .unset, .unset, .unset, .unset, .unset, .unset]) rfl (pc' := 16) rfl ?_
  refine C.iloadN at_16 rfl (pc' := 17) rfl ?_
  refine C.ldcI (i := 0) rfl at_17 (pc' := 19) rfl ?_
  refine C.iand at_19 (pc' := 20) rfl ?_
  refine C.iconst at_20 (v := 4) rfl (pc' := 21) rfl ?_
  refine C.irem at_21 (by decide) (pc' := 22) rfl ?_
  refine castI (show ((d &&& (2147483647 : Int32)) % (4 : Int32)) = (Int32.ofNat p4) from qp4) ?_
  refine C.istore at_22 (ls' := #[.val (.int b), .val (.int c), .val (.int d), .val (.int e), .val (.int (Int32.ofNat p2)), .val (.int (Int32.ofNat p3)), .val (.int (Int32.ofNat p4)), .unset, .unset, .unset, .unset, .unset, .unset, .unset, .unset, .unset, .unset, .unset, .unset, .unset, .unset, .unset, .unset, .unset, .unset]) rfl (pc' := 24) rfl ?_
  refine C.iloadN at_24 rfl (pc' := 25) rfl ?_
  refine C.ldcI (i := 0) rfl at_25 (pc' := 27) rfl ?_
  refine C.iand at_27 (pc' := 28) rfl ?_
  refine C.iconst at_28 (v := 5) rfl (pc' := 29) rfl ?_
  refine C.irem at_29 (by decide) (pc' := 30) rfl ?_
  refine castI (show ((e &&& (2147483647 : Int32)) % (5 : Int32)) = (Int32.ofNat v) from qv) ?_
  have D := own_dec ⟨p2, lp2⟩ ⟨p3, lp3⟩ ⟨p4, lp4⟩
  dsimp only at D
  refine C.istore at_30 (ls' := #[.val (.int b), .val (.int c), .val (.int d), .val (.int e), .val (.int (Int32.ofNat p2)), .val (.int (Int32.ofNat p3)), .val (.int (Int32.ofNat p4)), .val (.int (Int32.ofNat v)), .unset, .unset, .unset, .unset, .unset, .unset, .unset, .unset, .unset, .unset, .unset, .unset, .unset, .unset, .unset, .unset, .unset]) rfl (pc' := 32) rfl ?_
  refine C.iconst at_32 (v := 1) rfl (pc' := 33) rfl ?_
  refine C.iload at_33 rfl (pc' := 35) rfl ?_
  refine C.iconst at_35 (v := 0) rfl (pc' := 36) rfl ?_
  refine C.callSP (c_eq l Z a0 hw [] n0 h p2 0 (by omega) (by omega)) (i1 := 1) (i2 := 2) (i3 := 3) (i4 := 4) rfl rfl rfl rfl (by decide) pd_1 rfl (argsL := [(.int (Int32.ofNat p2)), (.int (0 : Int32))]) rfl (rest := [(.int (1 : Int32))]) rfl rfl (W := 1) rfl (by decide) (by decide) (by decide) (by decide) at_36 (pc' := 39) rfl (k' := 0) rfl (n' := 0) rfl ?_
  refine C.iadd at_39 (pc' := 40) rfl ?_
  refine castI (show ((1 : Int32) + (Int32.ofNat (own_e p2 0))) = (Int32.ofNat (1 + (own_e p2 0))) from (Int32.ofNat_add 1 (own_e p2 0)).symm) ?_
  refine C.iload at_40 rfl (pc' := 42) rfl ?_
  refine C.iconst at_42 (v := 0) rfl (pc' := 43) rfl ?_
  refine C.callSP (c_eq l Z a0 hw [] n0 h p3 0 (by omega) (by omega)) (i1 := 1) (i2 := 2) (i3 := 3) (i4 := 4) rfl rfl rfl rfl (by decide) pd_1 rfl (argsL := [(.int (Int32.ofNat p3)), (.int (0 : Int32))]) rfl (rest := [(.int (Int32.ofNat (1 + (own_e p2 0))))]) rfl rfl (W := 1) rfl (by decide) (by decide) (by decide) (by decide) at_43 (pc' := 46) rfl (k' := 0) rfl (n' := 0) rfl ?_
  refine C.iadd at_46 (pc' := 47) rfl ?_
  refine castI (show ((Int32.ofNat (1 + (own_e p2 0))) + (Int32.ofNat (own_e p3 0))) = (Int32.ofNat ((1 + (own_e p2 0)) + (own_e p3 0))) from (Int32.ofNat_add (1 + (own_e p2 0)) (own_e p3 0)).symm) ?_
  refine C.iload at_47 rfl (pc' := 49) rfl ?_
  refine C.iconst at_49 (v := 0) rfl (pc' := 50) rfl ?_
  refine C.callSP (c_eq l Z a0 hw [] n0 h p4 0 (by omega) (by omega)) (i1 := 1) (i2 := 2) (i3 := 3) (i4 := 4) rfl rfl rfl rfl (by decide) pd_1 rfl (argsL := [(.int (Int32.ofNat p4)), (.int (0 : Int32))]) rfl (rest := [(.int (Int32.ofNat ((1 + (own_e p2 0)) + (own_e p3 0))))]) rfl rfl (W := 1) rfl (by decide) (by decide) (by decide) (by decide) at_50 (pc' := 53) rfl (k' := 0) rfl (n' := 0) rfl ?_
  refine C.iadd at_53 (pc' := 54) rfl ?_
  refine castI (show ((Int32.ofNat ((1 + (own_e p2 0)) + (own_e p3 0))) + (Int32.ofNat (own_e p4 0))) = (Int32.ofNat (((1 + (own_e p2 0)) + (own_e p3 0)) + (own_e p4 0))) from (Int32.ofNat_add ((1 + (own_e p2 0)) + (own_e p3 0)) (own_e p4 0)).symm) ?_
  refine castI (show (Int32.ofNat (((1 + (own_e p2 0)) + (own_e p3 0)) + (own_e p4 0))) = (Int32.ofNat (own_k0 p2 p3 p4)) from rfl) ?_
  refine C.istore at_54 (ls' := #[.val (.int b), .val (.int c), .val (.int d), .val (.int e), .val (.int (Int32.ofNat p2)), .val (.int (Int32.ofNat p3)), .val (.int (Int32.ofNat p4)), .val (.int (Int32.ofNat v)), .val (.int (Int32.ofNat (own_k0 p2 p3 p4))), .unset, .unset, .unset, .unset, .unset, .unset, .unset, .unset, .unset, .unset, .unset, .unset, .unset, .unset, .unset, .unset]) rfl (pc' := 56) rfl ?_
  refine C.iload at_56 rfl (pc' := 58) rfl ?_
  refine C.iconst at_58 (v := 1) rfl (pc' := 59) rfl ?_
  refine C.callSP (c_eq l Z a0 hw [] n0 h p2 1 (by omega) (by omega)) (i1 := 1) (i2 := 2) (i3 := 3) (i4 := 4) rfl rfl rfl rfl (by decide) pd_1 rfl (argsL := [(.int (Int32.ofNat p2)), (.int (1 : Int32))]) rfl (rest := []) rfl rfl (W := 0) rfl (by decide) (by decide) (by decide) (by decide) at_59 (pc' := 62) rfl (k' := 0) rfl (n' := 0) rfl ?_
  refine C.iload at_62 rfl (pc' := 64) rfl ?_
  refine C.iconst at_64 (v := 1) rfl (pc' := 65) rfl ?_
  refine C.callSP (c_eq l Z a0 hw [] n0 h p3 1 (by omega) (by omega)) (i1 := 1) (i2 := 2) (i3 := 3) (i4 := 4) rfl rfl rfl rfl (by decide) pd_1 rfl (argsL := [(.int (Int32.ofNat p3)), (.int (1 : Int32))]) rfl (rest := [(.int (Int32.ofNat (own_e p2 1)))]) rfl rfl (W := 1) rfl (by decide) (by decide) (by decide) (by decide) at_65 (pc' := 68) rfl (k' := 0) rfl (n' := 0) rfl ?_
  refine C.iadd at_68 (pc' := 69) rfl ?_
  refine castI (show ((Int32.ofNat (own_e p2 1)) + (Int32.ofNat (own_e p3 1))) = (Int32.ofNat ((own_e p2 1) + (own_e p3 1))) from (Int32.ofNat_add (own_e p2 1) (own_e p3 1)).symm) ?_
  refine C.iload at_69 rfl (pc' := 71) rfl ?_
  refine C.iconst at_71 (v := 1) rfl (pc' := 72) rfl ?_
  refine C.callSP (c_eq l Z a0 hw [] n0 h p4 1 (by omega) (by omega)) (i1 := 1) (i2 := 2) (i3 := 3) (i4 := 4) rfl rfl rfl rfl (by decide) pd_1 rfl (argsL := [(.int (Int32.ofNat p4)), (.int (1 : Int32))]) rfl (rest := [(.int (Int32.ofNat ((own_e p2 1) + (own_e p3 1))))]) rfl rfl (W := 1) rfl (by decide) (by decide) (by decide) (by decide) at_72 (pc' := 75) rfl (k' := 0) rfl (n' := 0) rfl ?_
  refine C.iadd at_75 (pc' := 76) rfl ?_
  refine castI (show ((Int32.ofNat ((own_e p2 1) + (own_e p3 1))) + (Int32.ofNat (own_e p4 1))) = (Int32.ofNat (((own_e p2 1) + (own_e p3 1)) + (own_e p4 1))) from (Int32.ofNat_add ((own_e p2 1) + (own_e p3 1)) (own_e p4 1)).symm) ?_
  refine castI (show (Int32.ofNat (((own_e p2 1) + (own_e p3 1)) + (own_e p4 1))) = (Int32.ofNat (own_k1 p2 p3 p4)) from rfl) ?_
  refine C.istore at_76 (ls' := #[.val (.int b), .val (.int c), .val (.int d), .val (.int e), .val (.int (Int32.ofNat p2)), .val (.int (Int32.ofNat p3)), .val (.int (Int32.ofNat p4)), .val (.int (Int32.ofNat v)), .val (.int (Int32.ofNat (own_k0 p2 p3 p4))), .val (.int (Int32.ofNat (own_k1 p2 p3 p4))), .unset, .unset, .unset, .unset, .unset, .unset, .unset, .unset, .unset, .unset, .unset, .unset, .unset, .unset, .unset]) rfl (pc' := 78) rfl ?_
  refine C.iload at_78 rfl (pc' := 80) rfl ?_
  refine C.iconst at_80 (v := 2) rfl (pc' := 81) rfl ?_
  refine C.callSP (c_eq l Z a0 hw [] n0 h p3 2 (by omega) (by omega)) (i1 := 1) (i2 := 2) (i3 := 3) (i4 := 4) rfl rfl rfl rfl (by decide) pd_1 rfl (argsL := [(.int (Int32.ofNat p3)), (.int (2 : Int32))]) rfl (rest := []) rfl rfl (W := 0) rfl (by decide) (by decide) (by decide) (by decide) at_81 (pc' := 84) rfl (k' := 0) rfl (n' := 0) rfl ?_
  refine C.iload at_84 rfl (pc' := 86) rfl ?_
  refine C.iconst at_86 (v := 2) rfl (pc' := 87) rfl ?_
  refine C.callSP (c_eq l Z a0 hw [] n0 h p4 2 (by omega) (by omega)) (i1 := 1) (i2 := 2) (i3 := 3) (i4 := 4) rfl rfl rfl rfl (by decide) pd_1 rfl (argsL := [(.int (Int32.ofNat p4)), (.int (2 : Int32))]) rfl (rest := [(.int (Int32.ofNat (own_e p3 2)))]) rfl rfl (W := 1) rfl (by decide) (by decide) (by decide) (by decide) at_87 (pc' := 90) rfl (k' := 0) rfl (n' := 0) rfl ?_
  refine C.iadd at_90 (pc' := 91) rfl ?_
  refine castI (show ((Int32.ofNat (own_e p3 2)) + (Int32.ofNat (own_e p4 2))) = (Int32.ofNat ((own_e p3 2) + (own_e p4 2))) from (Int32.ofNat_add (own_e p3 2) (own_e p4 2)).symm) ?_
  refine castI (show (Int32.ofNat ((own_e p3 2) + (own_e p4 2))) = (Int32.ofNat (own_k2 p2 p3 p4)) from rfl) ?_
  refine C.istore at_91 (ls' := #[.val (.int b), .val (.int c), .val (.int d), .val (.int e), .val (.int (Int32.ofNat p2)), .val (.int (Int32.ofNat p3)), .val (.int (Int32.ofNat p4)), .val (.int (Int32.ofNat v)), .val (.int (Int32.ofNat (own_k0 p2 p3 p4))), .val (.int (Int32.ofNat (own_k1 p2 p3 p4))), .val (.int (Int32.ofNat (own_k2 p2 p3 p4))), .unset, .unset, .unset, .unset, .unset, .unset, .unset, .unset, .unset, .unset, .unset, .unset, .unset, .unset]) rfl (pc' := 93) rfl ?_
  refine C.iload at_93 rfl (pc' := 95) rfl ?_
  refine C.iconst at_95 (v := 3) rfl (pc' := 96) rfl ?_
  refine C.callSP (c_eq l Z a0 hw [] n0 h p4 3 (by omega) (by omega)) (i1 := 1) (i2 := 2) (i3 := 3) (i4 := 4) rfl rfl rfl rfl (by decide) pd_1 rfl (argsL := [(.int (Int32.ofNat p4)), (.int (3 : Int32))]) rfl (rest := []) rfl rfl (W := 0) rfl (by decide) (by decide) (by decide) (by decide) at_96 (pc' := 99) rfl (k' := 0) rfl (n' := 0) rfl ?_
  refine C.istore at_99 (ls' := #[.val (.int b), .val (.int c), .val (.int d), .val (.int e), .val (.int (Int32.ofNat p2)), .val (.int (Int32.ofNat p3)), .val (.int (Int32.ofNat p4)), .val (.int (Int32.ofNat v)), .val (.int (Int32.ofNat (own_k0 p2 p3 p4))), .val (.int (Int32.ofNat (own_k1 p2 p3 p4))), .val (.int (Int32.ofNat (own_k2 p2 p3 p4))), .val (.int (Int32.ofNat (own_e p4 3))), .unset, .unset, .unset, .unset, .unset, .unset, .unset, .unset, .unset, .unset, .unset, .unset, .unset]) rfl (pc' := 101) rfl ?_
  refine C.bipush at_101 (v := 6) rfl (pc' := 103) rfl ?_
  refine C.newarray (w := 5) (ty := .int) rfl rfl (N := 6) ⟨by decide, by decide⟩ (d := (.int (0 : Int32))) rfl (vs := [(.int (0 : Int32)), (.int (0 : Int32)), (.int (0 : Int32)), (.int (0 : Int32)), (.int (0 : Int32)), (.int (0 : Int32))]) rfl (cap := 6) (by decide) (by decide) (by decide) (by decide) at_103 (pc' := 105) rfl ?_
  intro h27 o28 q29 E30 V_o28
  have g_o28 : n0 ≤ o28 := Nat.le_trans hz (Nat.le_of_eq q29.symm)
  have hz := Nat.le_trans hz E30.1
  refine C.astore at_105 (ls' := #[.val (.int b), .val (.int c), .val (.int d), .val (.int e), .val (.int (Int32.ofNat p2)), .val (.int (Int32.ofNat p3)), .val (.int (Int32.ofNat p4)), .val (.int (Int32.ofNat v)), .val (.int (Int32.ofNat (own_k0 p2 p3 p4))), .val (.int (Int32.ofNat (own_k1 p2 p3 p4))), .val (.int (Int32.ofNat (own_k2 p2 p3 p4))), .val (.int (Int32.ofNat (own_e p4 3))), .val (.ref o28), .unset, .unset, .unset, .unset, .unset, .unset, .unset, .unset, .unset, .unset, .unset, .unset]) rfl (pc' := 107) rfl ?_
  refine C.aload at_107 rfl (pc' := 109) rfl ?_
  refine C.iconst at_109 (v := 0) rfl (pc' := 110) rfl ?_
  refine C.iconst at_110 (v := 0) rfl (pc' := 111) rfl ?_
  refine C.iastore V_o28 (i := 0) ⟨by decide, by decide⟩ (by simp) (vs' := [(.int (0 : Int32)), (.int (0 : Int32)), (.int (0 : Int32)), (.int (0 : Int32)), (.int (0 : Int32)), (.int (0 : Int32))]) rfl g_o28 at_111 (pc' := 112) rfl ?_
  intro h31 W32 V_o28
  have hz : n0 ≤ _ := Nat.le_trans hz (Nat.le_of_eq W32.size.symm)
  refine C.aload at_112 rfl (pc' := 114) rfl ?_
  refine C.iconst at_114 (v := 1) rfl (pc' := 115) rfl ?_
  refine C.iload at_115 rfl (pc' := 117) rfl ?_
  refine C.iastore V_o28 (i := 1) ⟨by decide, by decide⟩ (by simp) (vs' := [(.int (0 : Int32)), (.int (Int32.ofNat (own_k0 p2 p3 p4))), (.int (0 : Int32)), (.int (0 : Int32)), (.int (0 : Int32)), (.int (0 : Int32))]) rfl g_o28 at_117 (pc' := 118) rfl ?_
  intro h33 W34 V_o28
  have hz : n0 ≤ _ := Nat.le_trans hz (Nat.le_of_eq W34.size.symm)
  refine C.aload at_118 rfl (pc' := 120) rfl ?_
  refine C.iconst at_120 (v := 2) rfl (pc' := 121) rfl ?_
  refine C.aload at_121 rfl (pc' := 123) rfl ?_
  refine C.iconst at_123 (v := 1) rfl (pc' := 124) rfl ?_
  refine C.iaload V_o28 (i := 1) ⟨by decide, by decide⟩ (v := (.int (Int32.ofNat (own_k0 p2 p3 p4)))) rfl at_124 (pc' := 125) rfl ?_
  refine C.iload at_125 rfl (pc' := 127) rfl ?_
  refine C.iadd at_127 (pc' := 128) rfl ?_
  refine castI (show ((Int32.ofNat (own_k0 p2 p3 p4)) + (Int32.ofNat (own_k1 p2 p3 p4))) = (Int32.ofNat ((own_k0 p2 p3 p4) + (own_k1 p2 p3 p4))) from (Int32.ofNat_add (own_k0 p2 p3 p4) (own_k1 p2 p3 p4)).symm) ?_
  refine castI (show (Int32.ofNat ((own_k0 p2 p3 p4) + (own_k1 p2 p3 p4))) = (Int32.ofNat (own_s2 p2 p3 p4)) from rfl) ?_
  refine C.iastore V_o28 (i := 2) ⟨by decide, by decide⟩ (by simp) (vs' := [(.int (0 : Int32)), (.int (Int32.ofNat (own_k0 p2 p3 p4))), (.int (Int32.ofNat (own_s2 p2 p3 p4))), (.int (0 : Int32)), (.int (0 : Int32)), (.int (0 : Int32))]) rfl g_o28 at_128 (pc' := 129) rfl ?_
  intro h35 W36 V_o28
  have hz : n0 ≤ _ := Nat.le_trans hz (Nat.le_of_eq W36.size.symm)
  refine C.aload at_129 rfl (pc' := 131) rfl ?_
  refine C.iconst at_131 (v := 3) rfl (pc' := 132) rfl ?_
  refine C.aload at_132 rfl (pc' := 134) rfl ?_
  refine C.iconst at_134 (v := 2) rfl (pc' := 135) rfl ?_
  refine C.iaload V_o28 (i := 2) ⟨by decide, by decide⟩ (v := (.int (Int32.ofNat (own_s2 p2 p3 p4)))) rfl at_135 (pc' := 136) rfl ?_
  refine C.iload at_136 rfl (pc' := 138) rfl ?_
  refine C.iadd at_138 (pc' := 139) rfl ?_
  refine castI (show ((Int32.ofNat (own_s2 p2 p3 p4)) + (Int32.ofNat (own_k2 p2 p3 p4))) = (Int32.ofNat ((own_s2 p2 p3 p4) + (own_k2 p2 p3 p4))) from (Int32.ofNat_add (own_s2 p2 p3 p4) (own_k2 p2 p3 p4)).symm) ?_
  refine castI (show (Int32.ofNat ((own_s2 p2 p3 p4) + (own_k2 p2 p3 p4))) = (Int32.ofNat (own_s3 p2 p3 p4)) from rfl) ?_
  refine C.iastore V_o28 (i := 3) ⟨by decide, by decide⟩ (by simp) (vs' := [(.int (0 : Int32)), (.int (Int32.ofNat (own_k0 p2 p3 p4))), (.int (Int32.ofNat (own_s2 p2 p3 p4))), (.int (Int32.ofNat (own_s3 p2 p3 p4))), (.int (0 : Int32)), (.int (0 : Int32))]) rfl g_o28 at_139 (pc' := 140) rfl ?_
  intro h37 W38 V_o28
  have hz : n0 ≤ _ := Nat.le_trans hz (Nat.le_of_eq W38.size.symm)
  refine C.aload at_140 rfl (pc' := 142) rfl ?_
  refine C.iconst at_142 (v := 4) rfl (pc' := 143) rfl ?_
  refine C.aload at_143 rfl (pc' := 145) rfl ?_
  refine C.iconst at_145 (v := 3) rfl (pc' := 146) rfl ?_
  refine C.iaload V_o28 (i := 3) ⟨by decide, by decide⟩ (v := (.int (Int32.ofNat (own_s3 p2 p3 p4)))) rfl at_146 (pc' := 147) rfl ?_
  refine C.iload at_147 rfl (pc' := 149) rfl ?_
  refine C.iadd at_149 (pc' := 150) rfl ?_
  refine castI (show ((Int32.ofNat (own_s3 p2 p3 p4)) + (Int32.ofNat (own_e p4 3))) = (Int32.ofNat ((own_s3 p2 p3 p4) + (own_e p4 3))) from (Int32.ofNat_add (own_s3 p2 p3 p4) (own_e p4 3)).symm) ?_
  refine castI (show (Int32.ofNat ((own_s3 p2 p3 p4) + (own_e p4 3))) = (Int32.ofNat (own_s4 p2 p3 p4)) from rfl) ?_
  refine C.iastore V_o28 (i := 4) ⟨by decide, by decide⟩ (by simp) (vs' := [(.int (0 : Int32)), (.int (Int32.ofNat (own_k0 p2 p3 p4))), (.int (Int32.ofNat (own_s2 p2 p3 p4))), (.int (Int32.ofNat (own_s3 p2 p3 p4))), (.int (Int32.ofNat (own_s4 p2 p3 p4))), (.int (0 : Int32))]) rfl g_o28 at_150 (pc' := 151) rfl ?_
  intro h39 W40 V_o28
  have hz : n0 ≤ _ := Nat.le_trans hz (Nat.le_of_eq W40.size.symm)
  refine C.aload at_151 rfl (pc' := 153) rfl ?_
  refine C.iconst at_153 (v := 5) rfl (pc' := 154) rfl ?_
  refine C.aload at_154 rfl (pc' := 156) rfl ?_
  refine C.iconst at_156 (v := 4) rfl (pc' := 157) rfl ?_
  refine C.iaload V_o28 (i := 4) ⟨by decide, by decide⟩ (v := (.int (Int32.ofNat (own_s4 p2 p3 p4)))) rfl at_157 (pc' := 158) rfl ?_
  refine C.iastore V_o28 (i := 5) ⟨by decide, by decide⟩ (by simp) (vs' := [(.int (0 : Int32)), (.int (Int32.ofNat (own_k0 p2 p3 p4))), (.int (Int32.ofNat (own_s2 p2 p3 p4))), (.int (Int32.ofNat (own_s3 p2 p3 p4))), (.int (Int32.ofNat (own_s4 p2 p3 p4))), (.int (Int32.ofNat (own_s4 p2 p3 p4)))]) rfl g_o28 at_158 (pc' := 159) rfl ?_
  intro h41 W42 V_o28
  have hz : n0 ≤ _ := Nat.le_trans hz (Nat.le_of_eq W42.size.symm)
  refine C.iconst at_159 (v := 4) rfl (pc' := 160) rfl ?_
  refine C.newarray (w := 5) (ty := .int) rfl rfl (N := 4) ⟨by decide, by decide⟩ (d := (.int (0 : Int32))) rfl (vs := [(.int (0 : Int32)), (.int (0 : Int32)), (.int (0 : Int32)), (.int (0 : Int32))]) rfl (cap := 4) (by decide) (by decide) (by decide) (by decide) at_160 (pc' := 162) rfl ?_
  intro h43 o44 q45 E46 V_o44
  have ne_o28_o44 : o28 ≠ o44 := Nat.ne_of_lt (Nat.lt_of_lt_of_le V_o28.lt (Nat.le_of_eq q45.symm))
  have V_o28 := V_o28.ext E46
  have g_o44 : n0 ≤ o44 := Nat.le_trans hz (Nat.le_of_eq q45.symm)
  have hz := Nat.le_trans hz E46.1
  refine C.astore at_162 (ls' := #[.val (.int b), .val (.int c), .val (.int d), .val (.int e), .val (.int (Int32.ofNat p2)), .val (.int (Int32.ofNat p3)), .val (.int (Int32.ofNat p4)), .val (.int (Int32.ofNat v)), .val (.int (Int32.ofNat (own_k0 p2 p3 p4))), .val (.int (Int32.ofNat (own_k1 p2 p3 p4))), .val (.int (Int32.ofNat (own_k2 p2 p3 p4))), .val (.int (Int32.ofNat (own_e p4 3))), .val (.ref o28), .val (.ref o44), .unset, .unset, .unset, .unset, .unset, .unset, .unset, .unset, .unset, .unset, .unset]) rfl (pc' := 164) rfl ?_
  refine C.aload at_164 rfl (pc' := 166) rfl ?_
  refine C.iload at_166 rfl (pc' := 168) rfl ?_
  refine C.iaload V_o28 (i := p2) (own_idx (by omega)) (v := (.int (Int32.ofNat ((own_xs p2 p3 p4).getD p2 0)))) (own_Lat (xs := (own_xs p2 p3 p4)) (by show p2 < 6; omega)) at_168 (pc' := 169) rfl ?_
  refine C.iconst at_169 (v := 0) rfl (pc' := 170) rfl ?_
  refine C.iload at_170 rfl (pc' := 172) rfl ?_
  refine C.callSP (c_eq l Z a0 hw [] n0 h43 0 p2 (by omega) (by omega)) (i1 := 1) (i2 := 2) (i3 := 3) (i4 := 4) rfl rfl rfl rfl (by decide) pd_1 rfl (argsL := [(.int (0 : Int32)), (.int (Int32.ofNat p2))]) rfl (rest := [(.int (Int32.ofNat ((own_xs p2 p3 p4).getD p2 0)))]) rfl rfl (W := 1) rfl (by decide) (by decide) (by decide) (by decide) at_172 (pc' := 175) rfl (k' := 2) rfl (n' := 10) rfl ?_
  refine C.iadd at_175 (pc' := 176) rfl ?_
  refine castI (show ((Int32.ofNat ((own_xs p2 p3 p4).getD p2 0)) + (Int32.ofNat (own_e 0 p2))) = (Int32.ofNat (((own_xs p2 p3 p4).getD p2 0) + (own_e 0 p2))) from (Int32.ofNat_add ((own_xs p2 p3 p4).getD p2 0) (own_e 0 p2)).symm) ?_
  refine castI (show (Int32.ofNat (((own_xs p2 p3 p4).getD p2 0) + (own_e 0 p2))) = (Int32.ofNat (own_q2 p2 p3 p4)) from rfl) ?_
  refine C.istore at_176 (ls' := #[.val (.int b), .val (.int c), .val (.int d), .val (.int e), .val (.int (Int32.ofNat p2)), .val (.int (Int32.ofNat p3)), .val (.int (Int32.ofNat p4)), .val (.int (Int32.ofNat v)), .val (.int (Int32.ofNat (own_k0 p2 p3 p4))), .val (.int (Int32.ofNat (own_k1 p2 p3 p4))), .val (.int (Int32.ofNat (own_k2 p2 p3 p4))), .val (.int (Int32.ofNat (own_e p4 3))), .val (.ref o28), .val (.ref o44), .val (.int (Int32.ofNat (own_q2 p2 p3 p4))), .unset, .unset, .unset, .unset, .unset, .unset, .unset, .unset, .unset, .unset]) rfl (pc' := 178) rfl ?_
  refine C.aload at_178 rfl (pc' := 180) rfl ?_
  refine C.iload at_180 rfl (pc' := 182) rfl ?_
  refine C.iaload V_o28 (i := p3) (own_idx (by omega)) (v := (.int (Int32.ofNat ((own_xs p2 p3 p4).getD p3 0)))) (own_Lat (xs := (own_xs p2 p3 p4)) (by show p3 < 6; omega)) at_182 (pc' := 183) rfl ?_
  refine C.iconst at_183 (v := 0) rfl (pc' := 184) rfl ?_
  refine C.iload at_184 rfl (pc' := 186) rfl ?_
  refine C.callSP (c_eq l Z a0 hw [] n0 h43 0 p3 (by omega) (by omega)) (i1 := 1) (i2 := 2) (i3 := 3) (i4 := 4) rfl rfl rfl rfl (by decide) pd_1 rfl (argsL := [(.int (0 : Int32)), (.int (Int32.ofNat p3))]) rfl (rest := [(.int (Int32.ofNat ((own_xs p2 p3 p4).getD p3 0)))]) rfl rfl (W := 1) rfl (by decide) (by decide) (by decide) (by decide) at_186 (pc' := 189) rfl (k' := 2) rfl (n' := 10) rfl ?_
  refine C.iadd at_189 (pc' := 190) rfl ?_
  refine castI (show ((Int32.ofNat ((own_xs p2 p3 p4).getD p3 0)) + (Int32.ofNat (own_e 0 p3))) = (Int32.ofNat (((own_xs p2 p3 p4).getD p3 0) + (own_e 0 p3))) from (Int32.ofNat_add ((own_xs p2 p3 p4).getD p3 0) (own_e 0 p3)).symm) ?_
  refine C.iload at_190 rfl (pc' := 192) rfl ?_
  refine C.iload at_192 rfl (pc' := 194) rfl ?_
  refine C.callSP (c_eq l Z a0 hw [] n0 h43 p2 p3 (by omega) (by omega)) (i1 := 1) (i2 := 2) (i3 := 3) (i4 := 4) rfl rfl rfl rfl (by decide) pd_1 rfl (argsL := [(.int (Int32.ofNat p2)), (.int (Int32.ofNat p3))]) rfl (rest := [(.int (Int32.ofNat (((own_xs p2 p3 p4).getD p3 0) + (own_e 0 p3))))]) rfl rfl (W := 1) rfl (by decide) (by decide) (by decide) (by decide) at_194 (pc' := 197) rfl (k' := 2) rfl (n' := 10) rfl ?_
  refine C.iadd at_197 (pc' := 198) rfl ?_
  refine castI (show ((Int32.ofNat (((own_xs p2 p3 p4).getD p3 0) + (own_e 0 p3))) + (Int32.ofNat (own_e p2 p3))) = (Int32.ofNat ((((own_xs p2 p3 p4).getD p3 0) + (own_e 0 p3)) + (own_e p2 p3))) from (Int32.ofNat_add (((own_xs p2 p3 p4).getD p3 0) + (own_e 0 p3)) (own_e p2 p3)).symm) ?_
  refine castI (show (Int32.ofNat ((((own_xs p2 p3 p4).getD p3 0) + (own_e 0 p3)) + (own_e p2 p3))) = (Int32.ofNat (own_q3 p2 p3 p4)) from rfl) ?_
  refine C.istore at_198 (ls' := #[.val (.int b), .val (.int c), .val (.int d), .val (.int e), .val (.int (Int32.ofNat p2)), .val (.int (Int32.ofNat p3)), .val (.int (Int32.ofNat p4)), .val (.int (Int32.ofNat v)), .val (.int (Int32.ofNat (own_k0 p2 p3 p4))), .val (.int (Int32.ofNat (own_k1 p2 p3 p4))), .val (.int (Int32.ofNat (own_k2 p2 p3 p4))), .val (.int (Int32.ofNat (own_e p4 3))), .val (.ref o28), .val (.ref o44), .val (.int (Int32.ofNat (own_q2 p2 p3 p4))), .val (.int (Int32.ofNat (own_q3 p2 p3 p4))), .unset, .unset, .unset, .unset, .unset, .unset, .unset, .unset, .unset]) rfl (pc' := 200) rfl ?_
  refine C.aload at_200 rfl (pc' := 202) rfl ?_
  refine C.iload at_202 rfl (pc' := 204) rfl ?_
  refine C.iaload V_o28 (i := p4) (own_idx (by omega)) (v := (.int (Int32.ofNat ((own_xs p2 p3 p4).getD p4 0)))) (own_Lat (xs := (own_xs p2 p3 p4)) (by show p4 < 6; omega)) at_204 (pc' := 205) rfl ?_
  refine C.iconst at_205 (v := 0) rfl (pc' := 206) rfl ?_
  refine C.iload at_206 rfl (pc' := 208) rfl ?_
  refine C.callSP (c_eq l Z a0 hw [] n0 h43 0 p4 (by omega) (by omega)) (i1 := 1) (i2 := 2) (i3 := 3) (i4 := 4) rfl rfl rfl rfl (by decide) pd_1 rfl (argsL := [(.int (0 : Int32)), (.int (Int32.ofNat p4))]) rfl (rest := [(.int (Int32.ofNat ((own_xs p2 p3 p4).getD p4 0)))]) rfl rfl (W := 1) rfl (by decide) (by decide) (by decide) (by decide) at_208 (pc' := 211) rfl (k' := 2) rfl (n' := 10) rfl ?_
  refine C.iadd at_211 (pc' := 212) rfl ?_
  refine castI (show ((Int32.ofNat ((own_xs p2 p3 p4).getD p4 0)) + (Int32.ofNat (own_e 0 p4))) = (Int32.ofNat (((own_xs p2 p3 p4).getD p4 0) + (own_e 0 p4))) from (Int32.ofNat_add ((own_xs p2 p3 p4).getD p4 0) (own_e 0 p4)).symm) ?_
  refine C.iload at_212 rfl (pc' := 214) rfl ?_
  refine C.iload at_214 rfl (pc' := 216) rfl ?_
  refine C.callSP (c_eq l Z a0 hw [] n0 h43 p2 p4 (by omega) (by omega)) (i1 := 1) (i2 := 2) (i3 := 3) (i4 := 4) rfl rfl rfl rfl (by decide) pd_1 rfl (argsL := [(.int (Int32.ofNat p2)), (.int (Int32.ofNat p4))]) rfl (rest := [(.int (Int32.ofNat (((own_xs p2 p3 p4).getD p4 0) + (own_e 0 p4))))]) rfl rfl (W := 1) rfl (by decide) (by decide) (by decide) (by decide) at_216 (pc' := 219) rfl (k' := 2) rfl (n' := 10) rfl ?_
  refine C.iadd at_219 (pc' := 220) rfl ?_
  refine castI (show ((Int32.ofNat (((own_xs p2 p3 p4).getD p4 0) + (own_e 0 p4))) + (Int32.ofNat (own_e p2 p4))) = (Int32.ofNat ((((own_xs p2 p3 p4).getD p4 0) + (own_e 0 p4)) + (own_e p2 p4))) from (Int32.ofNat_add (((own_xs p2 p3 p4).getD p4 0) + (own_e 0 p4)) (own_e p2 p4)).symm) ?_
  refine C.iload at_220 rfl (pc' := 222) rfl ?_
  refine C.iload at_222 rfl (pc' := 224) rfl ?_
  refine C.callSP (c_eq l Z a0 hw [] n0 h43 p3 p4 (by omega) (by omega)) (i1 := 1) (i2 := 2) (i3 := 3) (i4 := 4) rfl rfl rfl rfl (by decide) pd_1 rfl (argsL := [(.int (Int32.ofNat p3)), (.int (Int32.ofNat p4))]) rfl (rest := [(.int (Int32.ofNat ((((own_xs p2 p3 p4).getD p4 0) + (own_e 0 p4)) + (own_e p2 p4))))]) rfl rfl (W := 1) rfl (by decide) (by decide) (by decide) (by decide) at_224 (pc' := 227) rfl (k' := 2) rfl (n' := 10) rfl ?_
  refine C.iadd at_227 (pc' := 228) rfl ?_
  refine castI (show ((Int32.ofNat ((((own_xs p2 p3 p4).getD p4 0) + (own_e 0 p4)) + (own_e p2 p4))) + (Int32.ofNat (own_e p3 p4))) = (Int32.ofNat (((((own_xs p2 p3 p4).getD p4 0) + (own_e 0 p4)) + (own_e p2 p4)) + (own_e p3 p4))) from (Int32.ofNat_add ((((own_xs p2 p3 p4).getD p4 0) + (own_e 0 p4)) + (own_e p2 p4)) (own_e p3 p4)).symm) ?_
  refine castI (show (Int32.ofNat (((((own_xs p2 p3 p4).getD p4 0) + (own_e 0 p4)) + (own_e p2 p4)) + (own_e p3 p4))) = (Int32.ofNat (own_q4 p2 p3 p4)) from rfl) ?_
  refine C.istore at_228 (ls' := #[.val (.int b), .val (.int c), .val (.int d), .val (.int e), .val (.int (Int32.ofNat p2)), .val (.int (Int32.ofNat p3)), .val (.int (Int32.ofNat p4)), .val (.int (Int32.ofNat v)), .val (.int (Int32.ofNat (own_k0 p2 p3 p4))), .val (.int (Int32.ofNat (own_k1 p2 p3 p4))), .val (.int (Int32.ofNat (own_k2 p2 p3 p4))), .val (.int (Int32.ofNat (own_e p4 3))), .val (.ref o28), .val (.ref o44), .val (.int (Int32.ofNat (own_q2 p2 p3 p4))), .val (.int (Int32.ofNat (own_q3 p2 p3 p4))), .val (.int (Int32.ofNat (own_q4 p2 p3 p4))), .unset, .unset, .unset, .unset, .unset, .unset, .unset, .unset]) rfl (pc' := 230) rfl ?_
  refine C.aload at_230 rfl (pc' := 232) rfl ?_
  refine C.iconst at_232 (v := 0) rfl (pc' := 233) rfl ?_
  refine C.iconst at_233 (v := 1) rfl (pc' := 234) rfl ?_
  refine C.iastore V_o44 (i := 0) ⟨by decide, by decide⟩ (by simp) (vs' := [(.int (1 : Int32)), (.int (0 : Int32)), (.int (0 : Int32)), (.int (0 : Int32))]) rfl g_o44 at_234 (pc' := 235) rfl ?_
  intro h47 W48 V_o44
  have V_o28 := V_o28.other W48 ne_o28_o44
  have hz : n0 ≤ _ := Nat.le_trans hz (Nat.le_of_eq W48.size.symm)
  refine C.aload at_235 rfl (pc' := 237) rfl ?_
  refine C.iload at_237 rfl (pc' := 239) rfl ?_
  refine C.iconst at_239 (v := 2) rfl (pc' := 240) rfl ?_
  refine C.iastore V_o44 (i := (own_q2 p2 p3 p4)) (own_idx (by have := D.1; omega)) (by show (own_q2 p2 p3 p4) < 4; exact D.1.1) (vs' := own_L (own_h2 p2 p3 p4)) (own_Lset [1, 0, 0, 0] (own_q2 p2 p3 p4) 2) g_o44 at_240 (pc' := 241) rfl ?_
  intro h49 W50 V_o44
  have V_o28 := V_o28.other W50 ne_o28_o44
  have hz : n0 ≤ _ := Nat.le_trans hz (Nat.le_of_eq W50.size.symm)
  refine C.aload at_241 rfl (pc' := 243) rfl ?_
  refine C.iload at_243 rfl (pc' := 245) rfl ?_
  refine C.iconst at_245 (v := 3) rfl (pc' := 246) rfl ?_
  refine C.iastore V_o44 (i := (own_q3 p2 p3 p4)) (own_idx (by have := D.1; omega)) (by rw [own_Llen, own_len2]; exact D.1.2.1) (vs' := own_L (own_h3 p2 p3 p4)) (own_Lset (own_h2 p2 p3 p4) (own_q3 p2 p3 p4) 3) g_o44 at_246 (pc' := 247) rfl ?_
  intro h51 W52 V_o44
  have V_o28 := V_o28.other W52 ne_o28_o44
  have hz : n0 ≤ _ := Nat.le_trans hz (Nat.le_of_eq W52.size.symm)
  refine C.aload at_247 rfl (pc' := 249) rfl ?_
  refine C.iload at_249 rfl (pc' := 251) rfl ?_
  refine C.iconst at_251 (v := 4) rfl (pc' := 252) rfl ?_
  refine C.iastore V_o44 (i := (own_q4 p2 p3 p4)) (own_idx (by have := D.1; omega)) (by rw [own_Llen, own_len3]; exact D.1.2.2) (vs' := own_L (own_h4 p2 p3 p4)) (own_Lset (own_h3 p2 p3 p4) (own_q4 p2 p3 p4) 4) g_o44 at_252 (pc' := 253) rfl ?_
  intro h53 W54 V_o44
  have V_o28 := V_o28.other W54 ne_o28_o44
  have hz : n0 ≤ _ := Nat.le_trans hz (Nat.le_of_eq W54.size.symm)
  refine C.iconst at_253 (v := 3) rfl (pc' := 254) rfl ?_
  refine C.newarray (w := 6) (ty := .double) rfl rfl (N := 3) ⟨by decide, by decide⟩ (d := (.double 0)) rfl (vs := [(.double 0), (.double 0), (.double 0)]) rfl (cap := 3) (by decide) (by decide) (by decide) (by decide) at_254 (pc' := 256) rfl ?_
  intro h55 o56 q57 E58 V_o56
  have ne_o28_o56 : o28 ≠ o56 := Nat.ne_of_lt (Nat.lt_of_lt_of_le V_o28.lt (Nat.le_of_eq q57.symm))
  have ne_o44_o56 : o44 ≠ o56 := Nat.ne_of_lt (Nat.lt_of_lt_of_le V_o44.lt (Nat.le_of_eq q57.symm))
  have V_o28 := V_o28.ext E58
  have V_o44 := V_o44.ext E58
  have g_o56 : n0 ≤ o56 := Nat.le_trans hz (Nat.le_of_eq q57.symm)
  have hz := Nat.le_trans hz E58.1
  refine C.dup at_256 rfl (pc' := 257) rfl ?_
  refine C.iconst at_257 (v := 0) rfl (pc' := 258) rfl ?_
  refine C.dconst0 at_258 (pc' := 259) rfl ?_
  refine C.dastore V_o56 (i := 0) ⟨by decide, by decide⟩ (by simp) g_o56 at_259 (pc' := 260) rfl ?_
  intro h59 W60 V_o56
  have V_o28 := V_o28.other W60 ne_o28_o56
  have V_o44 := V_o44.other W60 ne_o44_o56
  have hz : n0 ≤ _ := Nat.le_trans hz (Nat.le_of_eq W60.size.symm)
  refine C.dup at_260 rfl (pc' := 261) rfl ?_
  refine C.iconst at_261 (v := 1) rfl (pc' := 262) rfl ?_
  refine C.ldcD (i := 7) rfl at_262 (pc' := 265) rfl ?_
  refine C.dastore V_o56 (i := 1) ⟨by decide, by decide⟩ (by simp) g_o56 at_265 (pc' := 266) rfl ?_
  intro h61 W62 V_o56
  have V_o28 := V_o28.other W62 ne_o28_o56
  have V_o44 := V_o44.other W62 ne_o44_o56
  have hz : n0 ≤ _ := Nat.le_trans hz (Nat.le_of_eq W62.size.symm)
  refine C.dup at_266 rfl (pc' := 267) rfl ?_
  refine C.iconst at_267 (v := 2) rfl (pc' := 268) rfl ?_
  refine C.dconst1 at_268 (pc' := 269) rfl ?_
  refine C.dastore V_o56 (i := 2) ⟨by decide, by decide⟩ (by simp) g_o56 at_269 (pc' := 270) rfl ?_
  intro h63 W64 V_o56
  have V_o28 := V_o28.other W64 ne_o28_o56
  have V_o44 := V_o44.other W64 ne_o44_o56
  have hz : n0 ≤ _ := Nat.le_trans hz (Nat.le_of_eq W64.size.symm)
  refine C.astore at_270 (ls' := #[.val (.int b), .val (.int c), .val (.int d), .val (.int e), .val (.int (Int32.ofNat p2)), .val (.int (Int32.ofNat p3)), .val (.int (Int32.ofNat p4)), .val (.int (Int32.ofNat v)), .val (.int (Int32.ofNat (own_k0 p2 p3 p4))), .val (.int (Int32.ofNat (own_k1 p2 p3 p4))), .val (.int (Int32.ofNat (own_k2 p2 p3 p4))), .val (.int (Int32.ofNat (own_e p4 3))), .val (.ref o28), .val (.ref o44), .val (.int (Int32.ofNat (own_q2 p2 p3 p4))), .val (.int (Int32.ofNat (own_q3 p2 p3 p4))), .val (.int (Int32.ofNat (own_q4 p2 p3 p4))), .val (.ref o56), .unset, .unset, .unset, .unset, .unset, .unset, .unset]) rfl (pc' := 272) rfl ?_
  refine C.newO (i1 := 8) (i2 := 9) (i3 := 10) rfl rfl rfl (by decide) (by decide) at_272 (pc' := 275) rfl ?_
  intro h65 o66 q67 E68 E_o66 D69
  have ne_o28_o66 : o28 ≠ o66 := Nat.ne_of_lt (Nat.lt_of_lt_of_le V_o28.lt (Nat.le_of_eq q67.symm))
  have ne_o44_o66 : o44 ≠ o66 := Nat.ne_of_lt (Nat.lt_of_lt_of_le V_o44.lt (Nat.le_of_eq q67.symm))
  have ne_o56_o66 : o56 ≠ o66 := Nat.ne_of_lt (Nat.lt_of_lt_of_le V_o56.lt (Nat.le_of_eq q67.symm))
  have V_o28 := V_o28.ext E68
  have V_o44 := V_o44.ext E68
  have V_o56 := V_o56.ext E68
  have g_o66 : n0 ≤ o66 := Nat.le_trans hz (Nat.le_of_eq q67.symm)
  have hz := Nat.le_trans hz E68.1
  have F_childStart_o66 : Fld Z h65 o66 "com/example/few_slopes/fewslopes/drawing/TriangleLayout" "childStart" "[I" .null := D69 (ty := (.array .int)) (Or.inr (hw _ (List.mem_of_getElem? (i := 18) rfl))) (by decide)
  have F_children_o66 : Fld Z h65 o66 "com/example/few_slopes/fewslopes/drawing/TriangleLayout" "children" "[I" .null := D69 (ty := (.array .int)) (Or.inr (hw _ (List.mem_of_getElem? (i := 20) rfl))) (by decide)
  have F_fractions_o66 : Fld Z h65 o66 "com/example/few_slopes/fewslopes/drawing/TriangleLayout" "fractions" "[D" .null := D69 (ty := (.array .double)) (Or.inr (hw _ (List.mem_of_getElem? (i := 22) rfl))) (by decide)
  have F_widths_o66 : Fld Z h65 o66 "com/example/few_slopes/fewslopes/drawing/TriangleLayout" "widths" "[D" .null := D69 (ty := (.array .double)) (Or.inr (hw _ (List.mem_of_getElem? (i := 24) rfl))) (by decide)
  have F_slopes_o66 : Fld Z h65 o66 "com/example/few_slopes/fewslopes/drawing/TriangleLayout" "slopes" "[I" .null := D69 (ty := (.array .int)) (Or.inr (hw _ (List.mem_of_getElem? (i := 26) rfl))) (by decide)
  have F_parents_o66 : Fld Z h65 o66 "com/example/few_slopes/fewslopes/drawing/TriangleLayout" "parents" "[I" .null := D69 (ty := (.array .int)) (Or.inr (hw _ (List.mem_of_getElem? (i := 28) rfl))) (by decide)
  refine C.dup at_275 rfl (pc' := 276) rfl ?_
  refine C.aload at_276 rfl (pc' := 278) rfl ?_
  refine C.aload at_278 rfl (pc' := 280) rfl ?_
  refine C.aload at_280 rfl (pc' := 282) rfl ?_
  refine C.callI (a := o66) (c_tri l Z a0 hw [] n0 h65 o66 o28 o44 o56 (own_xs p2 p3 p4) (own_h4 p2 p3 p4) hz g_o66 ne_o28_o66.symm ne_o44_o66.symm E_o66 F_childStart_o66 F_children_o66 F_fractions_o66 F_widths_o66 F_slopes_o66 F_parents_o66 V_o28 V_o44 rfl (fun v hv => by rw [own_len4]; exact D.2.1 ⟨v, by omega⟩) (fun i hi => D.2.2.1 ⟨i, by rw [own_len4] at hi; exact hi⟩) (by rw [own_len4]; decide)) (i1 := 11) (i2 := 12) (i3 := 10) (i4 := 13) rfl rfl rfl rfl rfl (by decide) pd_2 rfl (argsL := [(.ref o28), (.ref o44), (.ref o56)]) rfl (rest := [(.ref o66)]) rfl rfl (W := 1) rfl (by decide) (by decide) (by decide) (by decide) at_282 (pc' := 285) rfl (k' := 7) rfl (n' := 34) rfl ?_
  rintro _ h70 ⟨rfl, K71, FA72, FB73⟩
  have V_o28 := V_o28.keep K71 (ninS ne_o28_o66 nin0)
  have V_o44 := V_o44.keep K71 (ninS ne_o44_o66 nin0)
  have V_o56 := V_o56.keep K71 (ninS ne_o56_o66 nin0)
  have E_o66 := E_o66.keep K71
  have hz := Nat.le_trans hz K71.1
  refine C.astore at_285 (ls' := #[.val (.int b), .val (.int c), .val (.int d), .val (.int e), .val (.int (Int32.ofNat p2)), .val (.int (Int32.ofNat p3)), .val (.int (Int32.ofNat p4)), .val (.int (Int32.ofNat v)), .val (.int (Int32.ofNat (own_k0 p2 p3 p4))), .val (.int (Int32.ofNat (own_k1 p2 p3 p4))), .val (.int (Int32.ofNat (own_k2 p2 p3 p4))), .val (.int (Int32.ofNat (own_e p4 3))), .val (.ref o28), .val (.ref o44), .val (.int (Int32.ofNat (own_q2 p2 p3 p4))), .val (.int (Int32.ofNat (own_q3 p2 p3 p4))), .val (.int (Int32.ofNat (own_q4 p2 p3 p4))), .val (.ref o56), .val (.ref o66), .unset, .unset, .unset, .unset, .unset, .unset]) rfl (pc' := 287) rfl ?_
  refine C.aload at_287 rfl (pc' := 289) rfl ?_
  refine C.iload at_289 rfl (pc' := 291) rfl ?_
  refine C.callVP (a := o66) (c_leaf l Z a0 hw [] n0 h70 o66 o28 o44 (own_xs p2 p3 p4) (own_h4 p2 p3 p4) v FA72 FB73 V_o28 V_o44 lv rfl (fun v hv => by rw [own_len4]; exact D.2.1 ⟨v, by omega⟩) (fun i hi => D.2.2.1 ⟨i, by rw [own_len4] at hi; exact hi⟩) (by rw [own_len4]; decide) (fun v hv => D.2.2.2.1 ⟨v, hv⟩)) E_o66 (i1 := 29) (i2 := 30) (i3 := 31) (i4 := 32) (i5 := 33) (i6 := 10) rfl rfl rfl rfl rfl rfl (by decide) pd_3 rfl (argsL := [(.int (Int32.ofNat v))]) rfl (rest := []) rfl rfl (W := 0) rfl (by decide) (by decide) (by decide) (by decide) at_291 (pc' := 294) rfl (k' := 7) rfl (n' := 34) rfl ?_
  have b0 := lv
  refine C.istore at_294 (ls' := #[.val (.int b), .val (.int c), .val (.int d), .val (.int e), .val (.int (Int32.ofNat p2)), .val (.int (Int32.ofNat p3)), .val (.int (Int32.ofNat p4)), .val (.int (Int32.ofNat v)), .val (.int (Int32.ofNat (own_k0 p2 p3 p4))), .val (.int (Int32.ofNat (own_k1 p2 p3 p4))), .val (.int (Int32.ofNat (own_k2 p2 p3 p4))), .val (.int (Int32.ofNat (own_e p4 3))), .val (.ref o28), .val (.ref o44), .val (.int (Int32.ofNat (own_q2 p2 p3 p4))), .val (.int (Int32.ofNat (own_q3 p2 p3 p4))), .val (.int (Int32.ofNat (own_q4 p2 p3 p4))), .val (.ref o56), .val (.ref o66), .val (.int (Int32.ofNat (own_leaf (own_xs p2 p3 p4) (own_h4 p2 p3 p4) 5 v))), .unset, .unset, .unset, .unset, .unset]) rfl (pc' := 296) rfl ?_
  refine C.iload at_296 rfl (pc' := 298) rfl ?_
  refine C.iload at_298 rfl (pc' := 300) rfl ?_
  refine C.iload at_300 rfl (pc' := 302) rfl ?_
  refine C.iload at_302 rfl (pc' := 304) rfl ?_
  refine C.callSP (c_step l Z a0 hw [] n0 h70 v p2 p3 p4 (by omega) (by omega) (by omega) (by omega)) (i1 := 34) (i2 := 35) (i3 := 3) (i4 := 36) rfl rfl rfl rfl (by decide) pd_0 rfl (argsL := [(.int (Int32.ofNat v)), (.int (Int32.ofNat p2)), (.int (Int32.ofNat p3)), (.int (Int32.ofNat p4))]) rfl (rest := []) rfl rfl (W := 0) rfl (by decide) (by decide) (by decide) (by decide) at_304 (pc' := 307) rfl (k' := 7) rfl (n' := 34) rfl ?_
  have b0 := own_sp5 p2 p3 p4 b0
  refine C.istore at_307 (ls' := #[.val (.int b), .val (.int c), .val (.int d), .val (.int e), .val (.int (Int32.ofNat p2)), .val (.int (Int32.ofNat p3)), .val (.int (Int32.ofNat p4)), .val (.int (Int32.ofNat v)), .val (.int (Int32.ofNat (own_k0 p2 p3 p4))), .val (.int (Int32.ofNat (own_k1 p2 p3 p4))), .val (.int (Int32.ofNat (own_k2 p2 p3 p4))), .val (.int (Int32.ofNat (own_e p4 3))), .val (.ref o28), .val (.ref o44), .val (.int (Int32.ofNat (own_q2 p2 p3 p4))), .val (.int (Int32.ofNat (own_q3 p2 p3 p4))), .val (.int (Int32.ofNat (own_q4 p2 p3 p4))), .val (.ref o56), .val (.ref o66), .val (.int (Int32.ofNat (own_leaf (own_xs p2 p3 p4) (own_h4 p2 p3 p4) 5 v))), .val (.int (Int32.ofNat (own_sp v p2 p3 p4))), .unset, .unset, .unset, .unset]) rfl (pc' := 309) rfl ?_
  refine C.iload at_309 rfl (pc' := 311) rfl ?_
  refine C.iload at_311 rfl (pc' := 313) rfl ?_
  refine C.iload at_313 rfl (pc' := 315) rfl ?_
  refine C.iload at_315 rfl (pc' := 317) rfl ?_
  refine C.callSP (c_step l Z a0 hw [] n0 h70 (own_sp v p2 p3 p4) p2 p3 p4 (by omega) (by omega) (by omega) (by omega)) (i1 := 34) (i2 := 35) (i3 := 3) (i4 := 36) rfl rfl rfl rfl (by decide) pd_0 rfl (argsL := [(.int (Int32.ofNat (own_sp v p2 p3 p4))), (.int (Int32.ofNat p2)), (.int (Int32.ofNat p3)), (.int (Int32.ofNat p4))]) rfl (rest := []) rfl rfl (W := 0) rfl (by decide) (by decide) (by decide) (by decide) at_317 (pc' := 320) rfl (k' := 7) rfl (n' := 34) rfl ?_
  have b0 := own_sp5 p2 p3 p4 b0
  refine C.istore at_320 (ls' := #[.val (.int b), .val (.int c), .val (.int d), .val (.int e), .val (.int (Int32.ofNat p2)), .val (.int (Int32.ofNat p3)), .val (.int (Int32.ofNat p4)), .val (.int (Int32.ofNat v)), .val (.int (Int32.ofNat (own_k0 p2 p3 p4))), .val (.int (Int32.ofNat (own_k1 p2 p3 p4))), .val (.int (Int32.ofNat (own_k2 p2 p3 p4))), .val (.int (Int32.ofNat (own_e p4 3))), .val (.ref o28), .val (.ref o44), .val (.int (Int32.ofNat (own_q2 p2 p3 p4))), .val (.int (Int32.ofNat (own_q3 p2 p3 p4))), .val (.int (Int32.ofNat (own_q4 p2 p3 p4))), .val (.ref o56), .val (.ref o66), .val (.int (Int32.ofNat (own_leaf (own_xs p2 p3 p4) (own_h4 p2 p3 p4) 5 v))), .val (.int (Int32.ofNat (own_sp v p2 p3 p4))), .val (.int (Int32.ofNat (own_sp (own_sp v p2 p3 p4) p2 p3 p4))), .unset, .unset, .unset]) rfl (pc' := 322) rfl ?_
  refine C.iload at_322 rfl (pc' := 324) rfl ?_
  refine C.iload at_324 rfl (pc' := 326) rfl ?_
  refine C.iload at_326 rfl (pc' := 328) rfl ?_
  refine C.iload at_328 rfl (pc' := 330) rfl ?_
  refine C.callSP (c_step l Z a0 hw [] n0 h70 (own_sp (own_sp v p2 p3 p4) p2 p3 p4) p2 p3 p4 (by omega) (by omega) (by omega) (by omega)) (i1 := 34) (i2 := 35) (i3 := 3) (i4 := 36) rfl rfl rfl rfl (by decide) pd_0 rfl (argsL := [(.int (Int32.ofNat (own_sp (own_sp v p2 p3 p4) p2 p3 p4))), (.int (Int32.ofNat p2)), (.int (Int32.ofNat p3)), (.int (Int32.ofNat p4))]) rfl (rest := []) rfl rfl (W := 0) rfl (by decide) (by decide) (by decide) (by decide) at_330 (pc' := 333) rfl (k' := 7) rfl (n' := 34) rfl ?_
  have b0 := own_sp5 p2 p3 p4 b0
  refine C.istore at_333 (ls' := #[.val (.int b), .val (.int c), .val (.int d), .val (.int e), .val (.int (Int32.ofNat p2)), .val (.int (Int32.ofNat p3)), .val (.int (Int32.ofNat p4)), .val (.int (Int32.ofNat v)), .val (.int (Int32.ofNat (own_k0 p2 p3 p4))), .val (.int (Int32.ofNat (own_k1 p2 p3 p4))), .val (.int (Int32.ofNat (own_k2 p2 p3 p4))), .val (.int (Int32.ofNat (own_e p4 3))), .val (.ref o28), .val (.ref o44), .val (.int (Int32.ofNat (own_q2 p2 p3 p4))), .val (.int (Int32.ofNat (own_q3 p2 p3 p4))), .val (.int (Int32.ofNat (own_q4 p2 p3 p4))), .val (.ref o56), .val (.ref o66), .val (.int (Int32.ofNat (own_leaf (own_xs p2 p3 p4) (own_h4 p2 p3 p4) 5 v))), .val (.int (Int32.ofNat (own_sp v p2 p3 p4))), .val (.int (Int32.ofNat (own_sp (own_sp v p2 p3 p4) p2 p3 p4))), .val (.int (Int32.ofNat (own_sp (own_sp (own_sp v p2 p3 p4) p2 p3 p4) p2 p3 p4))), .unset, .unset]) rfl (pc' := 335) rfl ?_
  refine C.iload at_335 rfl (pc' := 337) rfl ?_
  refine C.iload at_337 rfl (pc' := 339) rfl ?_
  refine C.iload at_339 rfl (pc' := 341) rfl ?_
  refine C.iload at_341 rfl (pc' := 343) rfl ?_
  refine C.callSP (c_step l Z a0 hw [] n0 h70 (own_sp (own_sp (own_sp v p2 p3 p4) p2 p3 p4) p2 p3 p4) p2 p3 p4 (by omega) (by omega) (by omega) (by omega)) (i1 := 34) (i2 := 35) (i3 := 3) (i4 := 36) rfl rfl rfl rfl (by decide) pd_0 rfl (argsL := [(.int (Int32.ofNat (own_sp (own_sp (own_sp v p2 p3 p4) p2 p3 p4) p2 p3 p4))), (.int (Int32.ofNat p2)), (.int (Int32.ofNat p3)), (.int (Int32.ofNat p4))]) rfl (rest := []) rfl rfl (W := 0) rfl (by decide) (by decide) (by decide) (by decide) at_343 (pc' := 346) rfl (k' := 7) rfl (n' := 34) rfl ?_
  have b0 := own_sp5 p2 p3 p4 b0
  refine C.istore at_346 (ls' := #[.val (.int b), .val (.int c), .val (.int d), .val (.int e), .val (.int (Int32.ofNat p2)), .val (.int (Int32.ofNat p3)), .val (.int (Int32.ofNat p4)), .val (.int (Int32.ofNat v)), .val (.int (Int32.ofNat (own_k0 p2 p3 p4))), .val (.int (Int32.ofNat (own_k1 p2 p3 p4))), .val (.int (Int32.ofNat (own_k2 p2 p3 p4))), .val (.int (Int32.ofNat (own_e p4 3))), .val (.ref o28), .val (.ref o44), .val (.int (Int32.ofNat (own_q2 p2 p3 p4))), .val (.int (Int32.ofNat (own_q3 p2 p3 p4))), .val (.int (Int32.ofNat (own_q4 p2 p3 p4))), .val (.ref o56), .val (.ref o66), .val (.int (Int32.ofNat (own_leaf (own_xs p2 p3 p4) (own_h4 p2 p3 p4) 5 v))), .val (.int (Int32.ofNat (own_sp v p2 p3 p4))), .val (.int (Int32.ofNat (own_sp (own_sp v p2 p3 p4) p2 p3 p4))), .val (.int (Int32.ofNat (own_sp (own_sp (own_sp v p2 p3 p4) p2 p3 p4) p2 p3 p4))), .val (.int (Int32.ofNat (own_sp (own_sp (own_sp (own_sp v p2 p3 p4) p2 p3 p4) p2 p3 p4) p2 p3 p4))), .unset]) rfl (pc' := 348) rfl ?_
  refine C.iload at_348 rfl (pc' := 350) rfl ?_
  refine C.iload at_350 rfl (pc' := 352) rfl ?_
  refine C.iload at_352 rfl (pc' := 354) rfl ?_
  refine C.iload at_354 rfl (pc' := 356) rfl ?_
  refine C.callSP (c_step l Z a0 hw [] n0 h70 (own_sp (own_sp (own_sp (own_sp v p2 p3 p4) p2 p3 p4) p2 p3 p4) p2 p3 p4) p2 p3 p4 (by omega) (by omega) (by omega) (by omega)) (i1 := 34) (i2 := 35) (i3 := 3) (i4 := 36) rfl rfl rfl rfl (by decide) pd_0 rfl (argsL := [(.int (Int32.ofNat (own_sp (own_sp (own_sp (own_sp v p2 p3 p4) p2 p3 p4) p2 p3 p4) p2 p3 p4))), (.int (Int32.ofNat p2)), (.int (Int32.ofNat p3)), (.int (Int32.ofNat p4))]) rfl (rest := []) rfl rfl (W := 0) rfl (by decide) (by decide) (by decide) (by decide) at_356 (pc' := 359) rfl (k' := 7) rfl (n' := 34) rfl ?_
  have b0 := own_sp5 p2 p3 p4 b0
  refine C.istore at_359 (ls' := #[.val (.int b), .val (.int c), .val (.int d), .val (.int e), .val (.int (Int32.ofNat p2)), .val (.int (Int32.ofNat p3)), .val (.int (Int32.ofNat p4)), .val (.int (Int32.ofNat v)), .val (.int (Int32.ofNat (own_k0 p2 p3 p4))), .val (.int (Int32.ofNat (own_k1 p2 p3 p4))), .val (.int (Int32.ofNat (own_k2 p2 p3 p4))), .val (.int (Int32.ofNat (own_e p4 3))), .val (.ref o28), .val (.ref o44), .val (.int (Int32.ofNat (own_q2 p2 p3 p4))), .val (.int (Int32.ofNat (own_q3 p2 p3 p4))), .val (.int (Int32.ofNat (own_q4 p2 p3 p4))), .val (.ref o56), .val (.ref o66), .val (.int (Int32.ofNat (own_leaf (own_xs p2 p3 p4) (own_h4 p2 p3 p4) 5 v))), .val (.int (Int32.ofNat (own_sp v p2 p3 p4))), .val (.int (Int32.ofNat (own_sp (own_sp v p2 p3 p4) p2 p3 p4))), .val (.int (Int32.ofNat (own_sp (own_sp (own_sp v p2 p3 p4) p2 p3 p4) p2 p3 p4))), .val (.int (Int32.ofNat (own_sp (own_sp (own_sp (own_sp v p2 p3 p4) p2 p3 p4) p2 p3 p4) p2 p3 p4))), .val (.int (Int32.ofNat (own_sp (own_sp (own_sp (own_sp (own_sp v p2 p3 p4) p2 p3 p4) p2 p3 p4) p2 p3 p4) p2 p3 p4)))]) rfl (pc' := 361) rfl ?_
  refine C.iload at_361 rfl (pc' := 363) rfl ?_
  refine C.iload at_363 rfl (pc' := 365) rfl ?_
  refine C.icmp_ne_F at_365 (congrArg Int32.ofNat (D.2.2.2.2 ⟨v, lv⟩)) (pc' := 368) rfl ?_
  refine C.iconst at_368 (v := 1) rfl (pc' := 369) rfl ?_
  refine C.goto at_369 (by decide) (pc' := 373) rfl ?_
  exact C.nreturn (b := (1 : Int32)) at_373 rfl (by simp) (by decide) (by decide) rfl rfl
set_option maxRecDepth 65536 in
set_option maxHeartbeats 4000000 in
theorem comes_1 {Post : Tables → Env → Array Value → State → Outcome → State → Prop} (hpost : ∀ tb e args s v u, (limb_1_1.after args s (.returned v) u = true ∧ limb_1_2.after args s (.returned v) u = true ∧ True) → FrameEnd s (.returned v) u (Jvm.fieldLocs frame_1_writes args s ++ Jvm.arrayLocs frame_1_arrays args s ++ Jvm.staticLocs frame_1_statics s) 24 192 → Post tb e args s (.returned v) u) :
    ArmFor flags0 classFile x code maxLocals ret World_1 tables_1 room_1 Calls_1 rest_1 Pre_1 Post := by
  intro l hfl _ _ p e ha hc hk s m args below hf hA hF happ hP
  obtain ⟨hcalls, hrest, hpre⟩ := hP
  obtain ⟨-, -, -, hnamed, -, -, -, hat⟩ := (Spec.applies_iff hf).mp happ
  obtain ⟨hg, hn⟩ := and_e (Cond.before_iff.mp (show (Jvm.Cond.and given_1 narrow_1).before args s = true from hpre))
  obtain ⟨hcount, hb0⟩ := and_e hg
  obtain ⟨ha0, hb1⟩ := and_e hb0
  obtain ⟨ha1, hb2⟩ := and_e hb1
  obtain ⟨ha2, hb3⟩ := and_e hb2
  obtain ⟨w0, w1, w2, w3, rfl⟩ : ∃ w0 w1 w2 w3 : Value, args = #[w0, w1, w2, w3] := by
    have hs : args.size = 4 := by simpa [Cond.value, given_1] using hcount
    obtain ⟨L⟩ := args
    match L, hs with
    | [w0, w1, w2, w3], _ => exact ⟨w0, w1, w2, w3, rfl⟩
  have hw := fun d (hd : d ∈ tables_1) => atoms_spec (ws := Jvm.Cond.code x code maxLocals ret :: tables_1) hat d (List.mem_cons_of_mem _ hd)
  obtain ⟨i0, e0⟩ := is_v ha0
  obtain rfl : w0 = (.int i0) := Option.some.inj e0
  obtain ⟨i1, e1⟩ := is_v ha1
  obtain rfl : w1 = (.int i1) := Option.some.inj e1
  obtain ⟨i2, e2⟩ := is_v ha2
  obtain rfl : w2 = (.int i2) := Option.some.inj e2
  obtain ⟨i3, e3⟩ := is_v hb3
  obtain rfl : w3 = (.int i3) := Option.some.inj e3
  obtain ⟨n, o, h1, h2, h3, _, L, rfl, ⟨rfl, N⟩, hq⟩ := c_law l s _ hw tables_1 s.heap.size s.heap i0 i1 i2 i3 (Nat.le_refl _) p e ha hc hk s m _ below hf ((Spec.applies_iff_loose hf).mp happ).1 ⟨rfl, State.Warmed39.refl s, rfl⟩ trivial
  refine ⟨n, _, h1, h2, h3, hpost _ _ _ _ _ _ ⟨Cond.after_iff.mpr rfl, Cond.after_iff.mpr (eq_i res_at (Term.int_eval (1)) rfl), trivial⟩ ⟨hq.1, hq.2.1, (hq.2.2.sift fun y hy => Or.inr (N y hy)).mono (by decide) (by decide)⟩⟩
theorem main_1_1 : Claimed_1_1 := comes_1 fun _ _ _ _ _ _ h hF => ⟨h.1, hF⟩
theorem main_1_2 : Claimed_1_2 := comes_1 fun _ _ _ _ _ _ h hF => ⟨h.2.1, hF⟩
end Jvm.Pilot.@@N@@
namespace Jvm.Pilot.@@N@@
open Jvm Jvm.ClassFile Sem Op Lib Jvm.Free Jvm.Stand Jvm.Pilot.@@N@@.Jvm.D
/-! MADE BY PROGRAM (witnessworld.py) out of the Statement's table words and the real class files: 11 classes; the members and pool entries that the words name. The judged class is class 1, her method 4. -/
namespace start1
open Jvm.ClassFile
def u (s : String) : CpInfo := .utf8 (stringToUtf16 s)
/-- a pool by its gaps: so many unusable entries, then the entry; so many at the end -/
def gap : Nat → List CpInfo → List CpInfo
  | 0, r => r
  | n + 1, r => .unusable :: gap n r
def poolList (es : List (Nat × CpInfo)) (last : Nat) : List CpInfo := es.foldr (fun e r => gap e.1 (e.2 :: r)) (gap last [])
def pool (es : List (Nat × CpInfo)) (last : Nat) : Array CpInfo := ⟨poolList es last⟩
def fileOf (pool : Array CpInfo) (this : Nat) (attrs : Array Attribute := #[]) (ms : Array MethodInfo := #[]) (fl : Nat := 33) (sup : Nat := 0) (ifs : Array Nat := #[]) (fds : Array FieldInfo := #[]) : ClassFile where
  minorVersion := 0
  majorVersion := 65
  constantPool := pool
  accessFlags := fl
  thisClass := this
  superClass := sup
  interfaces := ifs
  fields := fds
  methods := ms
  attributes := attrs
def plain (name : String) (sup : Option ClassId) : Class where
  name := name
  kind := .ordinary
  loader := none
  accessFlags := 33
  super := sup
  interfaces := #[]
  cf := none
  fields := #[]
  methods := #[]
  instanceTypes := #[]
  staticTypes := #[]
  resolved := #[]
  callSites := []
  init := .initialized
  statics := none
  mirror := none

def pool0 : Array CpInfo := pool [(5, u "<init>"), (0, u "()V"), (1, .class_ 10), (1, u "java/lang/Object")] 113

def k0c0 : Code := { maxStack := 0, maxLocals := 1, code := object_method_1_code, exceptionTable := #[], attributes := #[] }
def k0m0 : Method := { name := "<init>", desc := "()V", sig := { parameters := [], returnType := none }, accessFlags := 1, code := some k0c0 }
/-- java/lang/Object -/
def k0 : Class := { plain "java/lang/Object" none with
  accessFlags := 33
  interfaces := #[]
  cf := some (fileOf pool0 8 #[] #[{ accessFlags := 1, nameIndex := 5, descriptorIndex := 6, attributes := #[] }] 33 0 #[] #[])
  fields := #[]
  methods := #[k0m0]
  instanceTypes := #[]
  staticTypes := #[]
  resolved := Array.replicate 124 none
  statics := none }

def pool1 : Array CpInfo := pool [(2, .class_ 4), (1, u "java/lang/Object"), (0, u "<init>"), (0, u "()V"), (0, .methodref 8 9), (0, .class_ 10), (0, .nameAndType 11 12), (0, u "com/example/few_slopes/fewslopes/drawing/TriangleLayoutLastLeafPinLaw"), (0, u "lastChild"), (0, u "(IIII)I"), (0, .integer 2147483647), (0, .methodref 8 15), (0, .nameAndType 16 17), (0, u "eq"), (0, u "(II)I"), (0, .double 4602678819172646912), (1, .class_ 21), (0, u "com/example/few_slopes/fewslopes/drawing/TriangleLayout"), (0, .methodref 20 23), (0, .nameAndType 5 24), (0, u "([I[I[D)V"), (0, .methodref 20 26), (0, .nameAndType 27 28), (0, u "lastLeaf"), (0, u "(I)I"), (0, .methodref 8 30), (0, .nameAndType 31 12), (0, u "step"), (3, u "law"), (0, u "(IIII)Z")] 6

def k1m0 : Method := { name := "<init>", desc := "()V", sig := { parameters := [], returnType := none }, accessFlags := 1, code := none }
def k1c1 : Code := { maxStack := 2, maxLocals := 2, code := method_2_code, exceptionTable := #[], attributes := #[] }
def k1m1 : Method := { name := "eq", desc := "(II)I", sig := { parameters := [.int, .int], returnType := some .int }, accessFlags := 10, code := some k1c1 }
def k1c2 : Code := { maxStack := 2, maxLocals := 4, code := method_3_code, exceptionTable := #[], attributes := #[] }
def k1m2 : Method := { name := "lastChild", desc := "(IIII)I", sig := { parameters := [.int, .int, .int, .int], returnType := some .int }, accessFlags := 10, code := some k1c2 }
def k1c3 : Code := { maxStack := 4, maxLocals := 5, code := method_4_code, exceptionTable := #[], attributes := #[] }
def k1m3 : Method := { name := "step", desc := "(IIII)I", sig := { parameters := [.int, .int, .int, .int], returnType := some .int }, accessFlags := 10, code := some k1c3 }
def k1c4 : Code := { maxStack := 5, maxLocals := 25, code := code, exceptionTable := #[], attributes := #[] }
def k1m4 : Method := { name := "law", desc := "(IIII)Z", sig := { parameters := [.int, .int, .int, .int], returnType := some .boolean }, accessFlags := 9, code := some k1c4 }
/-- com/example/few_slopes/fewslopes/drawing/TriangleLayoutLastLeafPinLaw -/
def k1 : Class := { plain "com/example/few_slopes/fewslopes/drawing/TriangleLayoutLastLeafPinLaw" (some 0) with
  accessFlags := 49
  interfaces := #[]
  cf := some (fileOf pool1 8 #[] #[{ accessFlags := 1, nameIndex := 5, descriptorIndex := 6, attributes := #[] }, { accessFlags := 10, nameIndex := 16, descriptorIndex := 17, attributes := #[] }, { accessFlags := 10, nameIndex := 11, descriptorIndex := 12, attributes := #[] }, { accessFlags := 10, nameIndex := 31, descriptorIndex := 12, attributes := #[] }, { accessFlags := 9, nameIndex := 35, descriptorIndex := 36, attributes := #[] }] 49 2 #[] #[])
  fields := #[]
  methods := #[k1m0, k1m1, k1m2, k1m3, k1m4]
  instanceTypes := #[]
  staticTypes := #[]
  resolved := Array.replicate 43 none
  statics := none }

def pool2 : Array CpInfo := pool [(1, .methodref 2 3), (0, .class_ 4), (0, .nameAndType 5 6), (0, u "java/lang/Object"), (0, u "<init>"), (0, u "()V"), (0, .fieldref 8 9), (0, .class_ 10), (0, .nameAndType 11 12), (0, u "com/example/few_slopes/fewslopes/drawing/TriangleLayout"), (0, u "childStart"), (0, u "[I"), (0, .fieldref 8 14), (0, .nameAndType 15 12), (0, u "children"), (0, .fieldref 8 17), (0, .nameAndType 18 19), (0, u "fractions"), (0, u "[D"), (0, .fieldref 8 21), (0, .nameAndType 22 19), (0, u "widths"), (0, .fieldref 8 24), (0, .nameAndType 25 12), (0, u "slopes"), (0, .fieldref 8 27), (0, .nameAndType 28 12), (0, u "parents"), (12, u "HEIGHT"), (0, u "D"), (26, u "UNIT"), (3, u "SPACING"), (0, u "NARROWEST"), (0, u "([I[I[D)V"), (13, u "(I)I"), (0, u "lastLeaf")] 3

def k2c0 : Code := { maxStack := 4, maxLocals := 6, code := prog_7_method_1_code, exceptionTable := #[], attributes := #[] }
def k2m0 : Method := { name := "<init>", desc := "([I[I[D)V", sig := { parameters := [(.array .int), (.array .int), (.array .double)], returnType := none }, accessFlags := 0, code := some k2c0 }
def k2c1 : Code := { maxStack := 4, maxLocals := 3, code := prog_7_method_6_code, exceptionTable := #[], attributes := #[] }
def k2m1 : Method := { name := "lastLeaf", desc := "(I)I", sig := { parameters := [.int], returnType := some .int }, accessFlags := 0, code := some k2c1 }
/-- com/example/few_slopes/fewslopes/drawing/TriangleLayout -/
def k2 : Class := { plain "com/example/few_slopes/fewslopes/drawing/TriangleLayout" (some 0) with
  accessFlags := 48
  interfaces := #[]
  cf := some (fileOf pool2 8 #[] #[{ accessFlags := 0, nameIndex := 5, descriptorIndex := 75, attributes := #[] }, { accessFlags := 0, nameIndex := 90, descriptorIndex := 89, attributes := #[] }] 48 2 #[] #[{ accessFlags := 26, nameIndex := 69, descriptorIndex := 42, attributes := #[] }, { accessFlags := 26, nameIndex := 73, descriptorIndex := 42, attributes := #[] }, { accessFlags := 26, nameIndex := 74, descriptorIndex := 42, attributes := #[] }, { accessFlags := 24, nameIndex := 41, descriptorIndex := 42, attributes := #[] }, { accessFlags := 18, nameIndex := 11, descriptorIndex := 12, attributes := #[] }, { accessFlags := 18, nameIndex := 15, descriptorIndex := 12, attributes := #[] }, { accessFlags := 18, nameIndex := 18, descriptorIndex := 19, attributes := #[] }, { accessFlags := 18, nameIndex := 22, descriptorIndex := 19, attributes := #[] }, { accessFlags := 18, nameIndex := 25, descriptorIndex := 12, attributes := #[] }, { accessFlags := 18, nameIndex := 28, descriptorIndex := 12, attributes := #[] }])
  fields := #[{ name := "UNIT", type := .double, accessFlags := 26, slot := 0, constantValue := 0 }, { name := "SPACING", type := .double, accessFlags := 26, slot := 1, constantValue := 0 }, { name := "NARROWEST", type := .double, accessFlags := 26, slot := 2, constantValue := 0 }, { name := "HEIGHT", type := .double, accessFlags := 24, slot := 3, constantValue := 0 }, { name := "childStart", type := (.array .int), accessFlags := 18, slot := 0, constantValue := 0 }, { name := "children", type := (.array .int), accessFlags := 18, slot := 1, constantValue := 0 }, { name := "fractions", type := (.array .double), accessFlags := 18, slot := 2, constantValue := 0 }, { name := "widths", type := (.array .double), accessFlags := 18, slot := 3, constantValue := 0 }, { name := "slopes", type := (.array .int), accessFlags := 18, slot := 4, constantValue := 0 }, { name := "parents", type := (.array .int), accessFlags := 18, slot := 5, constantValue := 0 }]
  methods := #[k2m0, k2m1]
  instanceTypes := #[(.array .int), (.array .int), (.array .double), (.array .double), (.array .int), (.array .int)]
  staticTypes := #[.double, .double, .double, .double]
  resolved := Array.replicate 94 none
  statics := none }

def pool3 : Array CpInfo := pool [(1, u "java/lang/Cloneable"), (0, .class_ 1), (0, u "java/lang/Object"), (0, .class_ 3)] 3

/-- java/lang/Cloneable -/
def k3 : Class := { plain "java/lang/Cloneable" (some 0) with
  accessFlags := 1537
  interfaces := #[]
  cf := some (fileOf pool3 2 #[] #[] 1537 4 #[] #[])
  fields := #[]
  methods := #[]
  instanceTypes := #[]
  staticTypes := #[]
  resolved := Array.replicate 8 none
  statics := none }

def pool4 : Array CpInfo := pool [(1, u "java/io/Serializable"), (0, .class_ 1), (0, u "java/lang/Object"), (0, .class_ 3)] 3

/-- java/io/Serializable -/
def k4 : Class := { plain "java/io/Serializable" (some 0) with
  accessFlags := 1537
  interfaces := #[]
  cf := some (fileOf pool4 2 #[] #[] 1537 4 #[] #[])
  fields := #[]
  methods := #[]
  instanceTypes := #[]
  staticTypes := #[]
  resolved := Array.replicate 8 none
  statics := none }

/-- the primitive byte -/
def k5 : Class := { plain "byte" none with kind := .primitive 'B', accessFlags := 0x411 }
/-- [B -/
def k6 : Class := { plain "[B" (some 0) with kind := .array 5 .byte, interfaces := #[3, 4], accessFlags := 1041 }

/-- the primitive double -/
def k7 : Class := { plain "double" none with kind := .primitive 'D', accessFlags := 0x411 }
/-- [D -/
def k8 : Class := { plain "[D" (some 0) with kind := .array 7 .double, interfaces := #[3, 4], accessFlags := 1041 }

/-- the primitive int -/
def k9 : Class := { plain "int" none with kind := .primitive 'I', accessFlags := 0x411 }
/-- [I -/
def k10 : Class := { plain "[I" (some 0) with kind := .array 9 .int, interfaces := #[3, 4], accessFlags := 1041 }

def heap : Heap := #[]
def classes : Array Class := #[k0, k1, k2, k3, k4, k5, k6, k7, k8, k9, k10]
def interned : List (Array UInt16 × Addr) := []
def slotsUsed : Nat := 0
def theMethod : MethodId := ⟨1, 4⟩
def args0 : Array Value := #[.int 1, .int 2, .int 3, .int 4]
def aboutOver (below : List Frame) : State where
  vm := { classes := classes, interned := interned.toArray }
  heap := heap
  slotsUsed := slotsUsed
  threads := #[{ frames := .invoking theMethod args0 :: below }]
def below0 : List Frame := [.native { method := ⟨0, 0⟩, args := #[] }]
def about1 : State := aboutOver below0
def p0 : Program := .bare "" "" ""
def e0 : Env := launch0.env 0 0 0
theorem w_frames : about1.frames = Frame.invoking theMethod args0 :: below0 := rfl
set_option maxRecDepth 65536 in
theorem w_args : argsFit about1.vm theMethod args0 = true := by decide +kernel
set_option maxRecDepth 65536 in
theorem w_heap : heapFits about1 = true := by decide +kernel
set_option maxRecDepth 65536 in
theorem w_runnable : about1.curStatus? = some .runnable := by decide +kernel
set_option maxRecDepth 65536 in
theorem w_alone : about1.alone = true := by decide +kernel
set_option maxRecDepth 65536 in
theorem w_named : about1.methodNamed? x = some theMethod := by decide +kernel
set_option maxRecDepth 65536 in
theorem w_hears : about1.hears theMethod below0 = true := by decide +kernel
set_option maxRecDepth 65536 in
theorem w_ripe : about1.ripe theMethod args0 below0 = true := by decide +kernel
theorem w_running : about1.status = .running := rfl
set_option maxRecDepth 65536 in
theorem w_room : about1.hasRoom e0.platform room_1 = true :=
  launch0.hasRoom_least _ room_1 (by decide +kernel) (by decide +kernel) (by decide +kernel) (by decide +kernel) (by decide +kernel) (by decide +kernel)
theorem allAtoms_all (ts : List Jvm.Cond) (a : Array Jvm.Value) (st : Jvm.State) : (allAtoms ts).before a st = ts.all (fun c => c.before a st) := by
  induction ts with
  | nil => rfl
  | cons c t ih =>
    show (Jvm.Cond.and c (allAtoms t)).before a st = _
    rw [Jvm.Cond.before_and, ih, List.all_cons]
def words1 : List Jvm.Cond := Jvm.Cond.code x code maxLocals ret :: tables_1
/-- a 'code' word, met by the world's own term for the bytes: nothing is compared byte by byte -/
theorem code_word {y : MethodName} {bytes : ByteArray} {mx : Nat} {rt : Option FieldType} {a : Array Value} {s : State} {m : MethodId} {meth : Method} {c : Code} (h1 : s.methodNamed? y = some m) (h2 : s.vm.method? m = some meth) (h3 : meth.code = some c) (h4 : c.code = bytes)
    (h5 : (c.maxLocals == mx && c.exceptionTable.isEmpty && decide (c.maxStack ≤ mostOperands) && decide (meth.sig.returnType = rt) && !meth.locks && decide (parseMethodDescriptor y.desc = some meth.sig)) = true) : (Jvm.Cond.code y bytes mx rt).before a s = true := by
  simp only [Bool.and_eq_true, beq_iff_eq, Bool.not_eq_true', decide_eq_true_eq] at h5
  obtain ⟨⟨⟨⟨⟨g1, g2⟩, g3⟩, g4⟩, g5⟩, g6⟩ := h5
  simp [Cond.before, Cond.holds, Cond.value, h1, h2, h3, h4, g1, g2, g3, g4, g5, g6]
def isCode : Jvm.Cond → Bool
  | .code _ _ _ _ => true
  | _ => false
theorem all_split {L : List Jvm.Cond} {P : Jvm.Cond → Bool} (h1 : L.all (fun c => isCode c || P c) = true) (h2 : ∀ c ∈ L.filter isCode, P c = true) : L.all P = true := by
  refine List.all_eq_true.mpr fun c hc => ?_
  have h := List.all_eq_true.mp h1 c hc
  rcases Bool.eq_false_or_eq_true (isCode c) with hi | hi
  · exact h2 c (List.mem_filter.mpr ⟨hc, hi⟩)
  · simpa [hi] using h
set_option maxRecDepth 65536 in
theorem w_c0 : (Jvm.Cond.code x code maxLocals ret).before args0 about1 = true := code_word (m := ⟨1, 4⟩) (meth := k1m4) (c := k1c4) (by decide +kernel) rfl rfl rfl (by decide +kernel)
set_option maxRecDepth 65536 in
theorem w_c1 : (Jvm.Cond.code ({ cls := "com/example/few_slopes/fewslopes/drawing/TriangleLayoutLastLeafPinLaw", name := "eq", desc := "(II)I" } : Jvm.MethodName) method_2_code (2 : Nat) (Option.some Jvm.ClassFile.FieldType.int)).before args0 about1 = true := code_word (m := ⟨1, 1⟩) (meth := k1m1) (c := k1c1) (by decide +kernel) rfl rfl rfl (by decide +kernel)
set_option maxRecDepth 65536 in
theorem w_c2 : (Jvm.Cond.code ({ cls := "com/example/few_slopes/fewslopes/drawing/TriangleLayout", name := "<init>", desc := "([I[I[D)V" } : Jvm.MethodName) prog_7_method_1_code (6 : Nat) (Option.none : Option Jvm.ClassFile.FieldType)).before args0 about1 = true := code_word (m := ⟨2, 0⟩) (meth := k2m0) (c := k2c0) (by decide +kernel) rfl rfl rfl (by decide +kernel)
set_option maxRecDepth 65536 in
theorem w_c3 : (Jvm.Cond.code ({ cls := "java/lang/Object", name := "<init>", desc := "()V" } : Jvm.MethodName) object_method_1_code (1 : Nat) (Option.none : Option Jvm.ClassFile.FieldType)).before args0 about1 = true := code_word (m := ⟨0, 0⟩) (meth := k0m0) (c := k0c0) (by decide +kernel) rfl rfl rfl (by decide +kernel)
set_option maxRecDepth 65536 in
theorem w_c4 : (Jvm.Cond.code ({ cls := "com/example/few_slopes/fewslopes/drawing/TriangleLayout", name := "lastLeaf", desc := "(I)I" } : Jvm.MethodName) prog_7_method_6_code (3 : Nat) (Option.some Jvm.ClassFile.FieldType.int)).before args0 about1 = true := code_word (m := ⟨2, 1⟩) (meth := k2m1) (c := k2c1) (by decide +kernel) rfl rfl rfl (by decide +kernel)
set_option maxRecDepth 65536 in
theorem w_c5 : (Jvm.Cond.code ({ cls := "com/example/few_slopes/fewslopes/drawing/TriangleLayoutLastLeafPinLaw", name := "step", desc := "(IIII)I" } : Jvm.MethodName) method_4_code (5 : Nat) (Option.some Jvm.ClassFile.FieldType.int)).before args0 about1 = true := code_word (m := ⟨1, 3⟩) (meth := k1m3) (c := k1c3) (by decide +kernel) rfl rfl rfl (by decide +kernel)
set_option maxRecDepth 65536 in
theorem w_c6 : (Jvm.Cond.code ({ cls := "com/example/few_slopes/fewslopes/drawing/TriangleLayoutLastLeafPinLaw", name := "lastChild", desc := "(IIII)I" } : Jvm.MethodName) method_3_code (4 : Nat) (Option.some Jvm.ClassFile.FieldType.int)).before args0 about1 = true := code_word (m := ⟨1, 2⟩) (meth := k1m2) (c := k1c2) (by decide +kernel) rfl rfl rfl (by decide +kernel)
def codes1 : List Jvm.Cond := [Jvm.Cond.code x code maxLocals ret, Jvm.Cond.code ({ cls := "com/example/few_slopes/fewslopes/drawing/TriangleLayoutLastLeafPinLaw", name := "eq", desc := "(II)I" } : Jvm.MethodName) method_2_code (2 : Nat) (Option.some Jvm.ClassFile.FieldType.int), Jvm.Cond.code ({ cls := "com/example/few_slopes/fewslopes/drawing/TriangleLayout", name := "<init>", desc := "([I[I[D)V" } : Jvm.MethodName) prog_7_method_1_code (6 : Nat) (Option.none : Option Jvm.ClassFile.FieldType), Jvm.Cond.code ({ cls := "java/lang/Object", name := "<init>", desc := "()V" } : Jvm.MethodName) object_method_1_code (1 : Nat) (Option.none : Option Jvm.ClassFile.FieldType), Jvm.Cond.code ({ cls := "com/example/few_slopes/fewslopes/drawing/TriangleLayout", name := "lastLeaf", desc := "(I)I" } : Jvm.MethodName) prog_7_method_6_code (3 : Nat) (Option.some Jvm.ClassFile.FieldType.int), Jvm.Cond.code ({ cls := "com/example/few_slopes/fewslopes/drawing/TriangleLayoutLastLeafPinLaw", name := "step", desc := "(IIII)I" } : Jvm.MethodName) method_4_code (5 : Nat) (Option.some Jvm.ClassFile.FieldType.int), Jvm.Cond.code ({ cls := "com/example/few_slopes/fewslopes/drawing/TriangleLayoutLastLeafPinLaw", name := "lastChild", desc := "(IIII)I" } : Jvm.MethodName) method_3_code (4 : Nat) (Option.some Jvm.ClassFile.FieldType.int)]
set_option maxRecDepth 65536 in
theorem codes_eq : words1.filter isCode = codes1 := rfl
theorem w_codes : ∀ c ∈ words1.filter isCode, c.before args0 about1 = true := by
  rw [codes_eq]
  intro c hc
  simp only [codes1, List.mem_cons, List.not_mem_nil, or_false] at hc
  rcases hc with rfl | rfl | rfl | rfl | rfl | rfl | rfl
  · exact w_c0
  · exact w_c1
  · exact w_c2
  · exact w_c3
  · exact w_c4
  · exact w_c5
  · exact w_c6
set_option maxRecDepth 65536 in
theorem w_t1 : (words1.take 24).all (fun c => isCode c || c.before args0 about1) = true := by decide +kernel
set_option maxRecDepth 65536 in
theorem w_t2 : (words1.drop 24).all (fun c => isCode c || c.before args0 about1) = true := by decide +kernel
theorem w_tables : (allAtoms (Jvm.Cond.code x code maxLocals ret :: tables_1)).before args0 about1 = true := by
  rw [allAtoms_all]
  show words1.all (fun c => c.before args0 about1) = true
  refine all_split ?_ w_codes
  rw [← List.take_append_drop 24 words1, List.all_append, w_t1, w_t2]
  rfl
set_option maxRecDepth 65536 in
theorem w_case : (Jvm.Cond.and given_1 narrow_1).before args0 about1 = true := by decide +kernel
theorem w_applies : (headSpec (Jvm.Cond.code x code maxLocals ret :: tables_1) room_1).applies x e0.platform about1 = true :=
  (Spec.applies_iff w_frames).mpr ⟨w_running, w_runnable, w_alone, w_named, w_hears, w_ripe, w_room, w_tables⟩
theorem atStart : AtStart classFile x code maxLocals ret World_1 tables_1 room_1 Calls_1 rest_1 Pre_1 launch0 p0 e0 about1 theMethod args0 below0 :=
  ⟨lists_1, trivial, launch0.admits_env _ _ _, launch0.least_env, fairChoices_fair.cas, fairChoices_fair.clock, w_frames, w_args, w_heap, w_applies, trivial, trivial, w_case⟩
end start1
theorem witness_1 : WitnessClaimed_1 := ⟨start1.p0, start1.e0, start1.about1, start1.theMethod, start1.args0, start1.below0, start1.atStart⟩
end Jvm.Pilot.@@N@@
