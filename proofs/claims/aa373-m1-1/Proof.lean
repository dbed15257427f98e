import JvmDerived
import JvmDerived.Pilot.@@N@@Statement
import JvmDerived.Pilot.@@N@@Code
set_option linter.unusedVariables false
set_option linter.unusedSimpArgs false
namespace Jvm.GoKit
open Sem ClassFile Op Lib Jvm.Stand Jvm.Free Jvm.LawKit Jvm.RoadKit
abbrev GT := Heap → Nat → Nat → Nat → Array Slot → List Value → Prop
def Ctr (l : Launch) (Z : State) (y : MethodName) (bytes : ByteArray) (maxL : Nat) (ret : Option FieldType) (R : Room) (n0 : Nat) (as : Array Value) (h0 : Heap) (Q : Option Value → Heap → Prop) (wl : List Jvm.Cond) : Prop :=
  MetFree l y (head1 (Jvm.Cond.code y bytes maxL ret :: wl) R) (fun a U => a = as ∧ Z.Warmed39 U.vm ∧ U.heap = h0) (fun _ _ _ _ _ => True)
    (fun _ U o U' => ∃ v L, o = .returned v ∧ (Q v U'.heap ∧ Fr n0 L) ∧ FrameEnd U o U' L R.cells R.slots)
def Go (p : Program) (l : Launch) (e : Env) (R : Room) (s : State) (m : MethodId) (args : Array Value) (below : List Frame) (meth : Method) (c : Code) (n0 : Nat) (Q : Option Value → Heap → Prop) : GT :=
  fun h k n pc ls st => ∀ T locs, Stand p l e R s m args below meth c T locs k n → T.heap = h → Fr n0 locs →
    ∃ s₂ o, Steps p.tables e below (T.setTop (mkF m pc ls st)) s₂ ∧ s₂.status = .running ∧ Ended s₂ below o ∧ ∃ v L, o = .returned v ∧ (Q v s₂.heap ∧ Fr n0 L) ∧ FrameEnd s o s₂ L R.cells R.slots
def Cx (G : GT) (l : Launch) (Z : State) (a0 : Array Value) (ws : List Jvm.Cond) (R : Room) (y : MethodName) (bytes : ByteArray) (maxL : Nat) (ret : Option FieldType) (n0 : Nat) (Q : Option Value → Heap → Prop) : Prop :=
  ∃ p e s m args below meth c, p.tables.exec = Jvm.exec ∧ c.code = bytes ∧ c.maxLocals = maxL ∧ s.vm.findClass y.cls = some m.cls ∧ meth.name = y.name ∧ meth.sig.returnType = ret ∧ meth.locks = false ∧ Z.Warmed39 s.vm ∧ (∀ d ∈ ws, d.before a0 Z = true) ∧ G = Go p l e R s m args below meth c n0 Q
def lay : List Value → List Slot
  | [] => []
  | v :: vs => if v.category = 2 then .val v :: .second :: lay vs else .val v :: lay vs
theorem lay_fold : ∀ (vs : List Value) (acc : Array Slot), vs.foldl (fun (acc : Array Slot) v => if v.category = 2 then (acc.push (.val v)).push .second else acc.push (.val v)) acc = acc ++ (lay vs).toArray
  | [], acc => by simp [lay]
  | v :: vs, acc => by
    rw [List.foldl_cons, lay_fold vs, show lay (v :: vs) = (if v.category = 2 then Slot.val v :: .second :: lay vs else .val v :: lay vs) from rfl]
    split <;> simp
theorem entry_eq (m : MethodId) {as : Array Value} {maxL k : Nat} {L1 : List Slot} {ls : Array Slot} (h1 : lay as.toList = L1) (h2 : L1.length + k = maxL) (h3 : (L1 ++ List.replicate k Slot.unset).toArray = ls) : entryFrame m as maxL = mkF m 0 ls [] := by
  subst h1 h2 h3
  unfold entryFrame argsToLocals
  have e : as.foldl (init := #[]) (fun (acc : Array Slot) v => if v.category = 2 then (acc.push (.val v)).push .second else acc.push (.val v)) = (lay as.toList).toArray := by
    rw [← Array.foldl_toList, lay_fold]; simp
  simp only [e]
  simp [mkF]
theorem Ctr.of {l : Launch} {Z : State} {a0 : Array Value} {ws : List Jvm.Cond} {R : Room} {y : MethodName} {bytes : ByteArray} {maxL : Nat} {ret : Option FieldType} {n0 : Nat} {Q : Option Value → Heap → Prop} {as : Array Value} {h0 : Heap} {wl : List Jvm.Cond} {ls : Array Slot}
    (hn : plainFor y = true) (hw : ∀ d ∈ ws, d.before a0 Z = true) (he : ∀ m, entryFrame m as maxL = mkF m 0 ls []) (H : ∀ G, Cx G l Z a0 ws R y bytes maxL ret n0 Q → G h0 0 0 0 ls []) : Ctr l Z y bytes maxL ret R n0 as h0 Q wl := by
  refine MetFree.of_bodySF hn hisR ?_
  intro p e s m args below meth c s₁ Bd hml0 hP hK
  obtain ⟨rfl, hZ, hh⟩ := hP
  have X0 : Stand p l e R s m args below meth c s₁ [] 0 0 := Stand.of_body Bd
  have e0 : s₁.heap = h0 := by rw [← hh, Bd.state]; rfl
  obtain ⟨s₂, o, h1, h2, h3, h4⟩ := H (Go p l e R s m args below meth c n0 Q) ⟨p, e, s, m, args, below, meth, c, Bd.exec, Bd.bytes, hml0, findClass_of_methodNamed Bd.named, (name_of_methodNamed Bd.named Bd.method).1, Bd.returns, Bd.notSynchronized, hZ, hw, rfl⟩ s₁ [] X0 e0 (Fr.nil n0)
  exact ⟨s₂, o, castTop (he m) h1, h2, h3, h4⟩
theorem Ctr.mono {l : Launch} {Z : State} {R : Room} {y : MethodName} {bytes : ByteArray} {maxL : Nat} {ret : Option FieldType} {n0 : Nat} {Q Q' : Option Value → Heap → Prop} {as : Array Value} {h0 : Heap} {wl : List Jvm.Cond} (H : Ctr l Z y bytes maxL ret R n0 as h0 Q wl) (hq : ∀ v h, Q v h → Q' v h) : Ctr l Z y bytes maxL ret R n0 as h0 Q' wl := by
  intro p e ha hc hk s m args below hf happ hP hK
  obtain ⟨n, o, h1, h2, h3, v, L, h4, h5, h6⟩ := H p e ha hc hk s m args below hf happ hP hK
  exact ⟨n, o, h1, h2, h3, v, L, h4, ⟨hq _ _ h5.1, h5.2⟩, h6⟩
section Laws
variable {G : GT} {k' n' : Nat} {l : Launch} {Z : State} {a0 : Array Value} {ws : List Jvm.Cond} {R : Room} {y : MethodName} {bytes : ByteArray} {maxL : Nat} {ret : Option FieldType} {n0 : Nat} {Q : Option Value → Heap → Prop} {h : Heap} {k n pc pc' pc1 pc2 : Nat} {ls ls' : Array Slot} {st rest : List Value}
theorem lift {p : Program} {e : Env} {s : State} {m : MethodId} {args : Array Value} {below : List Frame} {meth : Method} {c : Code} {st' : List Value}
    (H : ∀ T locs, Stand p l e R s m args below meth c T locs k n → T.heap = h → ∀ target, Steps p.tables e below (T.setTop (mkF m pc' ls' st')) target → Steps p.tables e below (T.setTop (mkF m pc ls st)) target)
    (hr : Go p l e R s m args below meth c n0 Q h k n pc' ls' st') : Go p l e R s m args below meth c n0 Q h k n pc ls st := by
  intro T locs X hT hF
  obtain ⟨s₂, o, h1, h2⟩ := hr T locs X hT hF
  exact ⟨s₂, o, H T locs X hT s₂ h1, h2⟩
theorem word {d : Jvm.Cond} {i : Nat} (hw : ∀ d ∈ ws, d.before a0 Z = true) (hi : ws[i]? = some d) : d.before a0 Z = true := hw _ (List.mem_of_getElem? hi)
theorem Cx.iload (C : Cx G l Z a0 ws R y bytes maxL ret n0 Q) {j : Nat} {v : Int32} (hd : decode bytes pc = .ok (.iload j, 2)) (hl : ls[j]? = some (.val (.int v))) (hp : pc + 2 = pc') (hr : G h k n pc' ls (.int v :: st)) : G h k n pc ls (st) := by
  obtain ⟨p, e, s, m, args, below, meth, c, hx, hby, hml, hown, hnm, hret, hlk, hZ, hw, rfl⟩ := C
  subst hp
  exact lift (fun T locs X _ target q => XS.iload X.here hx rfl (hb hby hd) hl q) hr
theorem Cx.lload (C : Cx G l Z a0 ws R y bytes maxL ret n0 Q) {j : Nat} {v : Int64} (hd : decode bytes pc = .ok (.lload j, 2)) (hl : ls[j]? = some (.val (.long v))) (hp : pc + 2 = pc') (hr : G h k n pc' ls (.long v :: st)) : G h k n pc ls (st) := by
  obtain ⟨p, e, s, m, args, below, meth, c, hx, hby, hml, hown, hnm, hret, hlk, hZ, hw, rfl⟩ := C
  subst hp
  exact lift (fun T locs X _ target q => XT.lload X.here hx rfl (hb hby hd) hl q) hr
theorem Cx.aload (C : Cx G l Z a0 ws R y bytes maxL ret n0 Q) {j : Nat} {v : Addr} (hd : decode bytes pc = .ok (.aload j, 2)) (hl : ls[j]? = some (.val (.ref v))) (hp : pc + 2 = pc') (hr : G h k n pc' ls (.ref v :: st)) : G h k n pc ls (st) := by
  obtain ⟨p, e, s, m, args, below, meth, c, hx, hby, hml, hown, hnm, hret, hlk, hZ, hw, rfl⟩ := C
  subst hp
  exact lift (fun T locs X _ target q => XS.aload X.here hx rfl (hb hby hd) hl rfl q) hr
theorem Cx.istore (C : Cx G l Z a0 ws R y bytes maxL ret n0 Q) {j : Nat} {x : Int32} (hd : decode bytes pc = .ok (.istore j, 2)) (hl : storeLocals ls j (.int x) = some ls') (hp : pc + 2 = pc') (hr : G h k n pc' ls' (st)) : G h k n pc ls (.int x :: st) := by
  obtain ⟨p, e, s, m, args, below, meth, c, hx, hby, hml, hown, hnm, hret, hlk, hZ, hw, rfl⟩ := C
  subst hp
  exact lift (fun T locs X _ target q => XS.istore X.here hx rfl (hb hby hd) rfl hl q) hr
theorem Cx.lstore (C : Cx G l Z a0 ws R y bytes maxL ret n0 Q) {j : Nat} {x : Int64} (hd : decode bytes pc = .ok (.lstore j, 2)) (hl : storeLocals ls j (.long x) = some ls') (hp : pc + 2 = pc') (hr : G h k n pc' ls' (st)) : G h k n pc ls (.long x :: st) := by
  obtain ⟨p, e, s, m, args, below, meth, c, hx, hby, hml, hown, hnm, hret, hlk, hZ, hw, rfl⟩ := C
  subst hp
  exact lift (fun T locs X _ target q => XT.lstore X.here hx rfl (hb hby hd) rfl hl q) hr
theorem Cx.astore (C : Cx G l Z a0 ws R y bytes maxL ret n0 Q) {j : Nat} {x : Addr} (hd : decode bytes pc = .ok (.astore j, 2)) (hl : storeLocals ls j (.ref x) = some ls') (hp : pc + 2 = pc') (hr : G h k n pc' ls' (st)) : G h k n pc ls (.ref x :: st) := by
  obtain ⟨p, e, s, m, args, below, meth, c, hx, hby, hml, hown, hnm, hret, hlk, hZ, hw, rfl⟩ := C
  subst hp
  exact lift (fun T locs X _ target q => XS.astore X.here hx rfl (hb hby hd) rfl rfl hl q) hr
theorem Cx.iloadN (C : Cx G l Z a0 ws R y bytes maxL ret n0 Q) {j : Fin 4} {v : Int32} (hd : decode bytes pc = .ok (.iload_n j, 1)) (hl : ls[j.val]? = some (.val (.int v))) (hp : pc + 1 = pc') (hr : G h k n pc' ls (.int v :: st)) : G h k n pc ls (st) := by
  obtain ⟨p, e, s, m, args, below, meth, c, hx, hby, hml, hown, hnm, hret, hlk, hZ, hw, rfl⟩ := C
  subst hp
  exact lift (fun T locs X _ target q => XS.iloadN X.here hx rfl (hb hby hd) hl q) hr
theorem Cx.lloadN (C : Cx G l Z a0 ws R y bytes maxL ret n0 Q) {j : Fin 4} {v : Int64} (hd : decode bytes pc = .ok (.lload_n j, 1)) (hl : ls[j.val]? = some (.val (.long v))) (hp : pc + 1 = pc') (hr : G h k n pc' ls (.long v :: st)) : G h k n pc ls (st) := by
  obtain ⟨p, e, s, m, args, below, meth, c, hx, hby, hml, hown, hnm, hret, hlk, hZ, hw, rfl⟩ := C
  subst hp
  exact lift (fun T locs X _ target q => XT.lloadN X.here hx rfl (hb hby hd) hl q) hr
theorem Cx.aloadN (C : Cx G l Z a0 ws R y bytes maxL ret n0 Q) {j : Fin 4} {v : Addr} (hd : decode bytes pc = .ok (.aload_n j, 1)) (hl : ls[j.val]? = some (.val (.ref v))) (hp : pc + 1 = pc') (hr : G h k n pc' ls (.ref v :: st)) : G h k n pc ls (st) := by
  obtain ⟨p, e, s, m, args, below, meth, c, hx, hby, hml, hown, hnm, hret, hlk, hZ, hw, rfl⟩ := C
  subst hp
  exact lift (fun T locs X _ target q => XS.aloadN X.here hx rfl (hb hby hd) hl rfl q) hr
theorem Cx.istoreN (C : Cx G l Z a0 ws R y bytes maxL ret n0 Q) {j : Fin 4} {x : Int32} (hd : decode bytes pc = .ok (.istore_n j, 1)) (hl : storeLocals ls j.val (.int x) = some ls') (hp : pc + 1 = pc') (hr : G h k n pc' ls' (st)) : G h k n pc ls (.int x :: st) := by
  obtain ⟨p, e, s, m, args, below, meth, c, hx, hby, hml, hown, hnm, hret, hlk, hZ, hw, rfl⟩ := C
  subst hp
  exact lift (fun T locs X _ target q => XS.istoreN X.here hx rfl (hb hby hd) rfl hl q) hr
theorem Cx.lstoreN (C : Cx G l Z a0 ws R y bytes maxL ret n0 Q) {j : Fin 4} {x : Int64} (hd : decode bytes pc = .ok (.lstore_n j, 1)) (hl : storeLocals ls j.val (.long x) = some ls') (hp : pc + 1 = pc') (hr : G h k n pc' ls' (st)) : G h k n pc ls (.long x :: st) := by
  obtain ⟨p, e, s, m, args, below, meth, c, hx, hby, hml, hown, hnm, hret, hlk, hZ, hw, rfl⟩ := C
  subst hp
  exact lift (fun T locs X _ target q => XT.lstoreN X.here hx rfl (hb hby hd) rfl hl q) hr
theorem Cx.astoreN (C : Cx G l Z a0 ws R y bytes maxL ret n0 Q) {j : Fin 4} {x : Addr} (hd : decode bytes pc = .ok (.astore_n j, 1)) (hl : storeLocals ls j.val (.ref x) = some ls') (hp : pc + 1 = pc') (hr : G h k n pc' ls' (st)) : G h k n pc ls (.ref x :: st) := by
  obtain ⟨p, e, s, m, args, below, meth, c, hx, hby, hml, hown, hnm, hret, hlk, hZ, hw, rfl⟩ := C
  subst hp
  exact lift (fun T locs X _ target q => XS.astoreN X.here hx rfl (hb hby hd) rfl rfl hl q) hr
theorem Cx.iconst (C : Cx G l Z a0 ws R y bytes maxL ret n0 Q) {i : Int} {v : Int32} (hd : decode bytes pc = .ok (.iconst i, 1)) (hv : Int32.ofInt i = v) (hp : pc + 1 = pc') (hr : G h k n pc' ls (.int v :: st)) : G h k n pc ls (st) := by
  obtain ⟨p, e, s, m, args, below, meth, c, hx, hby, hml, hown, hnm, hret, hlk, hZ, hw, rfl⟩ := C
  subst hp
  exact lift (fun T locs X _ target q => XT.iconstV X.here hx rfl v (hb hby hd) hv q) hr
theorem Cx.bipush (C : Cx G l Z a0 ws R y bytes maxL ret n0 Q) {i : Int} {v : Int32} (hd : decode bytes pc = .ok (.bipush i, 2)) (hv : (Int8.ofInt i).toInt32 = v) (hp : pc + 2 = pc') (hr : G h k n pc' ls (.int v :: st)) : G h k n pc ls (st) := by
  obtain ⟨p, e, s, m, args, below, meth, c, hx, hby, hml, hown, hnm, hret, hlk, hZ, hw, rfl⟩ := C
  subst hp
  exact lift (fun T locs X _ target q => XT.bipushV X.here hx rfl v (hb hby hd) hv q) hr
theorem Cx.sipush (C : Cx G l Z a0 ws R y bytes maxL ret n0 Q) {i : Int} {v : Int32} (hd : decode bytes pc = .ok (.sipush i, 3)) (hv : (Int16.ofInt i).toInt32 = v) (hp : pc + 3 = pc') (hr : G h k n pc' ls (.int v :: st)) : G h k n pc ls (st) := by
  obtain ⟨p, e, s, m, args, below, meth, c, hx, hby, hml, hown, hnm, hret, hlk, hZ, hw, rfl⟩ := C
  subst hp
  exact lift (fun T locs X _ target q => XT.sipushV X.here hx rfl v (hb hby hd) hv q) hr
theorem Cx.lconst (C : Cx G l Z a0 ws R y bytes maxL ret n0 Q) {i : Fin 2} {v : Int64} (hd : decode bytes pc = .ok (.lconst i, 1)) (hv : Int64.ofNat i = v) (hp : pc + 1 = pc') (hr : G h k n pc' ls (.long v :: st)) : G h k n pc ls (st) := by
  obtain ⟨p, e, s, m, args, below, meth, c, hx, hby, hml, hown, hnm, hret, hlk, hZ, hw, rfl⟩ := C
  subst hp
  exact lift (fun T locs X _ target q => XT.lconstV X.here hx rfl v (hb hby hd) hv q) hr
theorem Cx.dconst0 (C : Cx G l Z a0 ws R y bytes maxL ret n0 Q)  (hd : decode bytes pc = .ok (.dconst 0, 1))  (hp : pc + 1 = pc') (hr : G h k n pc' ls (.double FP.dconst0 :: st)) : G h k n pc ls (st) := by
  obtain ⟨p, e, s, m, args, below, meth, c, hx, hby, hml, hown, hnm, hret, hlk, hZ, hw, rfl⟩ := C
  subst hp
  exact lift (fun T locs X _ target q => XS.dconst0 X.here hx rfl (hb hby hd) rfl q) hr
theorem Cx.dconst1 (C : Cx G l Z a0 ws R y bytes maxL ret n0 Q)  (hd : decode bytes pc = .ok (.dconst 1, 1))  (hp : pc + 1 = pc') (hr : G h k n pc' ls (.double FP.dconst1 :: st)) : G h k n pc ls (st) := by
  obtain ⟨p, e, s, m, args, below, meth, c, hx, hby, hml, hown, hnm, hret, hlk, hZ, hw, rfl⟩ := C
  subst hp
  exact lift (fun T locs X _ target q => XS.dconst1 X.here hx rfl (hb hby hd) rfl q) hr
theorem Cx.iadd (C : Cx G l Z a0 ws R y bytes maxL ret n0 Q) {a b : Int32} (hd : decode bytes pc = .ok (.iadd, 1))  (hp : pc + 1 = pc') (hr : G h k n pc' ls (.int (a + b) :: st)) : G h k n pc ls (.int b :: .int a :: st) := by
  obtain ⟨p, e, s, m, args, below, meth, c, hx, hby, hml, hown, hnm, hret, hlk, hZ, hw, rfl⟩ := C
  subst hp
  exact lift (fun T locs X _ target q => XS.iadd X.here hx rfl (hb hby hd) rfl q) hr
theorem Cx.isub (C : Cx G l Z a0 ws R y bytes maxL ret n0 Q) {a b : Int32} (hd : decode bytes pc = .ok (.isub, 1))  (hp : pc + 1 = pc') (hr : G h k n pc' ls (.int (a - b) :: st)) : G h k n pc ls (.int b :: .int a :: st) := by
  obtain ⟨p, e, s, m, args, below, meth, c, hx, hby, hml, hown, hnm, hret, hlk, hZ, hw, rfl⟩ := C
  subst hp
  exact lift (fun T locs X _ target q => XS.isub X.here hx rfl (hb hby hd) rfl q) hr
theorem Cx.imul (C : Cx G l Z a0 ws R y bytes maxL ret n0 Q) {a b : Int32} (hd : decode bytes pc = .ok (.imul, 1))  (hp : pc + 1 = pc') (hr : G h k n pc' ls (.int (a * b) :: st)) : G h k n pc ls (.int b :: .int a :: st) := by
  obtain ⟨p, e, s, m, args, below, meth, c, hx, hby, hml, hown, hnm, hret, hlk, hZ, hw, rfl⟩ := C
  subst hp
  exact lift (fun T locs X _ target q => XS.imul X.here hx rfl (hb hby hd) rfl q) hr
theorem Cx.iand (C : Cx G l Z a0 ws R y bytes maxL ret n0 Q) {a b : Int32} (hd : decode bytes pc = .ok (.iand, 1))  (hp : pc + 1 = pc') (hr : G h k n pc' ls (.int (a &&& b) :: st)) : G h k n pc ls (.int b :: .int a :: st) := by
  obtain ⟨p, e, s, m, args, below, meth, c, hx, hby, hml, hown, hnm, hret, hlk, hZ, hw, rfl⟩ := C
  subst hp
  exact lift (fun T locs X _ target q => XS.iand X.here hx rfl (hb hby hd) rfl q) hr
theorem Cx.ior (C : Cx G l Z a0 ws R y bytes maxL ret n0 Q) {a b : Int32} (hd : decode bytes pc = .ok (.ior, 1))  (hp : pc + 1 = pc') (hr : G h k n pc' ls (.int (a ||| b) :: st)) : G h k n pc ls (.int b :: .int a :: st) := by
  obtain ⟨p, e, s, m, args, below, meth, c, hx, hby, hml, hown, hnm, hret, hlk, hZ, hw, rfl⟩ := C
  subst hp
  exact lift (fun T locs X _ target q => XT.ior X.here hx rfl (hb hby hd) rfl q) hr
theorem Cx.ixor (C : Cx G l Z a0 ws R y bytes maxL ret n0 Q) {a b : Int32} (hd : decode bytes pc = .ok (.ixor, 1))  (hp : pc + 1 = pc') (hr : G h k n pc' ls (.int (a ^^^ b) :: st)) : G h k n pc ls (.int b :: .int a :: st) := by
  obtain ⟨p, e, s, m, args, below, meth, c, hx, hby, hml, hown, hnm, hret, hlk, hZ, hw, rfl⟩ := C
  subst hp
  exact lift (fun T locs X _ target q => XT.ixor X.here hx rfl (hb hby hd) rfl q) hr
theorem Cx.ladd (C : Cx G l Z a0 ws R y bytes maxL ret n0 Q) {a b : Int64} (hd : decode bytes pc = .ok (.ladd, 1))  (hp : pc + 1 = pc') (hr : G h k n pc' ls (.long (a + b) :: st)) : G h k n pc ls (.long b :: .long a :: st) := by
  obtain ⟨p, e, s, m, args, below, meth, c, hx, hby, hml, hown, hnm, hret, hlk, hZ, hw, rfl⟩ := C
  subst hp
  exact lift (fun T locs X _ target q => XT.ladd X.here hx rfl (hb hby hd) rfl q) hr
theorem Cx.lsub (C : Cx G l Z a0 ws R y bytes maxL ret n0 Q) {a b : Int64} (hd : decode bytes pc = .ok (.lsub, 1))  (hp : pc + 1 = pc') (hr : G h k n pc' ls (.long (a - b) :: st)) : G h k n pc ls (.long b :: .long a :: st) := by
  obtain ⟨p, e, s, m, args, below, meth, c, hx, hby, hml, hown, hnm, hret, hlk, hZ, hw, rfl⟩ := C
  subst hp
  exact lift (fun T locs X _ target q => XT.lsub X.here hx rfl (hb hby hd) rfl q) hr
theorem Cx.lmul (C : Cx G l Z a0 ws R y bytes maxL ret n0 Q) {a b : Int64} (hd : decode bytes pc = .ok (.lmul, 1))  (hp : pc + 1 = pc') (hr : G h k n pc' ls (.long (a * b) :: st)) : G h k n pc ls (.long b :: .long a :: st) := by
  obtain ⟨p, e, s, m, args, below, meth, c, hx, hby, hml, hown, hnm, hret, hlk, hZ, hw, rfl⟩ := C
  subst hp
  exact lift (fun T locs X _ target q => XT.lmul X.here hx rfl (hb hby hd) rfl q) hr
theorem Cx.land (C : Cx G l Z a0 ws R y bytes maxL ret n0 Q) {a b : Int64} (hd : decode bytes pc = .ok (.land, 1))  (hp : pc + 1 = pc') (hr : G h k n pc' ls (.long (a &&& b) :: st)) : G h k n pc ls (.long b :: .long a :: st) := by
  obtain ⟨p, e, s, m, args, below, meth, c, hx, hby, hml, hown, hnm, hret, hlk, hZ, hw, rfl⟩ := C
  subst hp
  exact lift (fun T locs X _ target q => XT.land X.here hx rfl (hb hby hd) rfl q) hr
theorem Cx.lor (C : Cx G l Z a0 ws R y bytes maxL ret n0 Q) {a b : Int64} (hd : decode bytes pc = .ok (.lor, 1))  (hp : pc + 1 = pc') (hr : G h k n pc' ls (.long (a ||| b) :: st)) : G h k n pc ls (.long b :: .long a :: st) := by
  obtain ⟨p, e, s, m, args, below, meth, c, hx, hby, hml, hown, hnm, hret, hlk, hZ, hw, rfl⟩ := C
  subst hp
  exact lift (fun T locs X _ target q => XT.lor X.here hx rfl (hb hby hd) rfl q) hr
theorem Cx.lxor (C : Cx G l Z a0 ws R y bytes maxL ret n0 Q) {a b : Int64} (hd : decode bytes pc = .ok (.lxor, 1))  (hp : pc + 1 = pc') (hr : G h k n pc' ls (.long (a ^^^ b) :: st)) : G h k n pc ls (.long b :: .long a :: st) := by
  obtain ⟨p, e, s, m, args, below, meth, c, hx, hby, hml, hown, hnm, hret, hlk, hZ, hw, rfl⟩ := C
  subst hp
  exact lift (fun T locs X _ target q => XT.lxor X.here hx rfl (hb hby hd) rfl q) hr
theorem Cx.ishl (C : Cx G l Z a0 ws R y bytes maxL ret n0 Q) {a b : Int32} (hd : decode bytes pc = .ok (.ishl, 1))  (hp : pc + 1 = pc') (hr : G h k n pc' ls (.int (a <<< (b &&& 31)) :: st)) : G h k n pc ls (.int b :: .int a :: st) := by
  obtain ⟨p, e, s, m, args, below, meth, c, hx, hby, hml, hown, hnm, hret, hlk, hZ, hw, rfl⟩ := C
  subst hp
  exact lift (fun T locs X _ target q => XT.ishl X.here hx rfl (hb hby hd) rfl q) hr
theorem Cx.ishr (C : Cx G l Z a0 ws R y bytes maxL ret n0 Q) {a b : Int32} (hd : decode bytes pc = .ok (.ishr, 1))  (hp : pc + 1 = pc') (hr : G h k n pc' ls (.int (a >>> (b &&& 31)) :: st)) : G h k n pc ls (.int b :: .int a :: st) := by
  obtain ⟨p, e, s, m, args, below, meth, c, hx, hby, hml, hown, hnm, hret, hlk, hZ, hw, rfl⟩ := C
  subst hp
  exact lift (fun T locs X _ target q => XT.ishr X.here hx rfl (hb hby hd) rfl q) hr
theorem Cx.iushr (C : Cx G l Z a0 ws R y bytes maxL ret n0 Q) {a b : Int32} (hd : decode bytes pc = .ok (.iushr, 1))  (hp : pc + 1 = pc') (hr : G h k n pc' ls (.int (XT.ushr a b) :: st)) : G h k n pc ls (.int b :: .int a :: st) := by
  obtain ⟨p, e, s, m, args, below, meth, c, hx, hby, hml, hown, hnm, hret, hlk, hZ, hw, rfl⟩ := C
  subst hp
  exact lift (fun T locs X _ target q => XT.iushr X.here hx rfl (hb hby hd) rfl q) hr
theorem Cx.lshl (C : Cx G l Z a0 ws R y bytes maxL ret n0 Q) {a : Int64} {b : Int32} (hd : decode bytes pc = .ok (.lshl, 1))  (hp : pc + 1 = pc') (hr : G h k n pc' ls (.long (a <<< (b.toInt64 &&& 63)) :: st)) : G h k n pc ls (.int b :: .long a :: st) := by
  obtain ⟨p, e, s, m, args, below, meth, c, hx, hby, hml, hown, hnm, hret, hlk, hZ, hw, rfl⟩ := C
  subst hp
  exact lift (fun T locs X _ target q => XT.lshl X.here hx rfl (hb hby hd) rfl q) hr
theorem Cx.lshr (C : Cx G l Z a0 ws R y bytes maxL ret n0 Q) {a : Int64} {b : Int32} (hd : decode bytes pc = .ok (.lshr, 1))  (hp : pc + 1 = pc') (hr : G h k n pc' ls (.long (a >>> (b.toInt64 &&& 63)) :: st)) : G h k n pc ls (.int b :: .long a :: st) := by
  obtain ⟨p, e, s, m, args, below, meth, c, hx, hby, hml, hown, hnm, hret, hlk, hZ, hw, rfl⟩ := C
  subst hp
  exact lift (fun T locs X _ target q => XT.lshr X.here hx rfl (hb hby hd) rfl q) hr
theorem Cx.lushr (C : Cx G l Z a0 ws R y bytes maxL ret n0 Q) {a : Int64} {b : Int32} (hd : decode bytes pc = .ok (.lushr, 1))  (hp : pc + 1 = pc') (hr : G h k n pc' ls (.long (XT.ushrL a b) :: st)) : G h k n pc ls (.int b :: .long a :: st) := by
  obtain ⟨p, e, s, m, args, below, meth, c, hx, hby, hml, hown, hnm, hret, hlk, hZ, hw, rfl⟩ := C
  subst hp
  exact lift (fun T locs X _ target q => XT.lushr X.here hx rfl (hb hby hd) rfl q) hr
theorem Cx.ineg (C : Cx G l Z a0 ws R y bytes maxL ret n0 Q) {a : Int32} (hd : decode bytes pc = .ok (.ineg, 1))  (hp : pc + 1 = pc') (hr : G h k n pc' ls (.int (-a) :: st)) : G h k n pc ls (.int a :: st) := by
  obtain ⟨p, e, s, m, args, below, meth, c, hx, hby, hml, hown, hnm, hret, hlk, hZ, hw, rfl⟩ := C
  subst hp
  exact lift (fun T locs X _ target q => XS.ineg X.here hx rfl (hb hby hd) rfl q) hr
theorem Cx.i2l (C : Cx G l Z a0 ws R y bytes maxL ret n0 Q) {a : Int32} (hd : decode bytes pc = .ok (.i2l, 1))  (hp : pc + 1 = pc') (hr : G h k n pc' ls (.long a.toInt64 :: st)) : G h k n pc ls (.int a :: st) := by
  obtain ⟨p, e, s, m, args, below, meth, c, hx, hby, hml, hown, hnm, hret, hlk, hZ, hw, rfl⟩ := C
  subst hp
  exact lift (fun T locs X _ target q => XT.i2l X.here hx rfl (hb hby hd) rfl q) hr
theorem Cx.l2i (C : Cx G l Z a0 ws R y bytes maxL ret n0 Q) {a : Int64} (hd : decode bytes pc = .ok (.l2i, 1))  (hp : pc + 1 = pc') (hr : G h k n pc' ls (.int a.toInt32 :: st)) : G h k n pc ls (.long a :: st) := by
  obtain ⟨p, e, s, m, args, below, meth, c, hx, hby, hml, hown, hnm, hret, hlk, hZ, hw, rfl⟩ := C
  subst hp
  exact lift (fun T locs X _ target q => XT.l2i X.here hx rfl (hb hby hd) rfl q) hr
theorem Cx.i2b (C : Cx G l Z a0 ws R y bytes maxL ret n0 Q) {a : Int32} (hd : decode bytes pc = .ok (.i2b, 1))  (hp : pc + 1 = pc') (hr : G h k n pc' ls (.int a.toInt8.toInt32 :: st)) : G h k n pc ls (.int a :: st) := by
  obtain ⟨p, e, s, m, args, below, meth, c, hx, hby, hml, hown, hnm, hret, hlk, hZ, hw, rfl⟩ := C
  subst hp
  exact lift (fun T locs X _ target q => XT.i2b X.here hx rfl (hb hby hd) rfl q) hr
theorem Cx.i2c (C : Cx G l Z a0 ws R y bytes maxL ret n0 Q) {a : Int32} (hd : decode bytes pc = .ok (.i2c, 1))  (hp : pc + 1 = pc') (hr : G h k n pc' ls (.int a.toUInt32.toUInt16.toUInt32.toInt32 :: st)) : G h k n pc ls (.int a :: st) := by
  obtain ⟨p, e, s, m, args, below, meth, c, hx, hby, hml, hown, hnm, hret, hlk, hZ, hw, rfl⟩ := C
  subst hp
  exact lift (fun T locs X _ target q => XT.i2c X.here hx rfl (hb hby hd) rfl q) hr
theorem Cx.lcmp (C : Cx G l Z a0 ws R y bytes maxL ret n0 Q) {a b : Int64} (hd : decode bytes pc = .ok (.lcmp, 1))  (hp : pc + 1 = pc') (hr : G h k n pc' ls (.int (XT.cmpL a b) :: st)) : G h k n pc ls (.long b :: .long a :: st) := by
  obtain ⟨p, e, s, m, args, below, meth, c, hx, hby, hml, hown, hnm, hret, hlk, hZ, hw, rfl⟩ := C
  subst hp
  exact lift (fun T locs X _ target q => XT.lcmp X.here hx rfl (hb hby hd) rfl q) hr
theorem Cx.dup (C : Cx G l Z a0 ws R y bytes maxL ret n0 Q) {x : Value} (hd : decode bytes pc = .ok (.dup, 1)) (hc : x.category = 1) (hp : pc + 1 = pc') (hr : G h k n pc' ls (x :: x :: st)) : G h k n pc ls (x :: st) := by
  obtain ⟨p, e, s, m, args, below, meth, c, hx, hby, hml, hown, hnm, hret, hlk, hZ, hw, rfl⟩ := C
  subst hp
  exact lift (fun T locs X _ target q => XS.dup X.here hx rfl (hb hby hd) rfl hc q) hr
theorem Cx.dup2 (C : Cx G l Z a0 ws R y bytes maxL ret n0 Q) {x z : Value} (hd : decode bytes pc = .ok (.dup2, 1)) (hc : x.category = 1) (hc' : z.category = 1) (hp : pc + 1 = pc') (hr : G h k n pc' ls (x :: z :: x :: z :: st)) : G h k n pc ls (x :: z :: st) := by
  obtain ⟨p, e, s, m, args, below, meth, c, hx, hby, hml, hown, hnm, hret, hlk, hZ, hw, rfl⟩ := C
  subst hp
  exact lift (fun T locs X _ target q => XT.dup2 X.here hx rfl (hb hby hd) rfl hc hc' q) hr
theorem Cx.iinc (C : Cx G l Z a0 ws R y bytes maxL ret n0 Q) {j : Nat} {i : Int} {v x : Int32} (hd : decode bytes pc = .ok (.iinc j i, 3)) (hv : Int32.ofInt i = v) (hl : ls[j]? = some (.val (.int x))) (hl' : storeLocals ls j (.int (x + v)) = some ls') (hp : pc + 3 = pc') (hr : G h k n pc' ls' st) : G h k n pc ls st := by
  obtain ⟨p, e, s, m, args, below, meth, c, hx, hby, hml, hown, hnm, hret, hlk, hZ, hw, rfl⟩ := C
  subst hp
  exact lift (fun T locs X _ target q => XT.iincV X.here hx rfl v (hb hby hd) hv hl hl' q) hr
theorem Cx.irem (C : Cx G l Z a0 ws R y bytes maxL ret n0 Q) {a b : Int32} (hd : decode bytes pc = .ok (.irem, 1)) (hb0 : b ≠ 0) (hp : pc + 1 = pc') (hr : G h k n pc' ls (.int (a % b) :: st)) : G h k n pc ls (.int b :: .int a :: st) := by
  obtain ⟨p, e, s, m, args, below, meth, c, hx, hby, hml, hown, hnm, hret, hlk, hZ, hw, rfl⟩ := C
  subst hp
  exact lift (fun T locs X _ target q => iremM X hx rfl (hb hby hd) rfl hb0 q) hr
theorem Cx.goto (C : Cx G l Z a0 ws R y bytes maxL ret n0 Q) {o : Int} (hd : decode bytes pc = .ok (.goto o, 3)) (ho : 0 ≤ (pc : Int) + o) (hp : ((pc : Int) + o).toNat = pc') (hr : G h k n pc' ls st) : G h k n pc ls st := by
  obtain ⟨p, e, s, m, args, below, meth, c, hx, hby, hml, hown, hnm, hret, hlk, hZ, hw, rfl⟩ := C
  exact lift (fun T locs X _ target q => XS.goto X.here hx rfl (pc0 := pc) rfl (hb hby hd) ho hp q) hr
theorem Cx.dupX2 (C : Cx G l Z a0 ws R y bytes maxL ret n0 Q) {x z w : Value} (hd : decode bytes pc = .ok (.dup_x2, 1)) (hc : x.category = 1) (hc' : z.category = 1) (hc'' : w.category = 1) (hp : pc + 1 = pc') (hr : G h k n pc' ls (x :: z :: w :: x :: st)) : G h k n pc ls (x :: z :: w :: st) := by
  obtain ⟨p, e, s, m, args, below, meth, c, hx, hby, hml, hown, hnm, hret, hlk, hZ, hw, rfl⟩ := C
  subst hp
  refine lift (fun T locs X _ target q => ?_) hr
  have h := X.here
  have hd' := hb hby hd
  show Steps p.tables e below (T.setTop { method := m, pc := pc, locals := ls, stack := x :: z :: w :: st, locked := none }) _
  jvm_step h [h.top, hx, hd', hc, hc', hc'']
  exact q
theorem Cx.icmp_eq_T (C : Cx G l Z a0 ws R y bytes maxL ret n0 Q) {a b : Int32} {o : Int} (hd : decode bytes pc = .ok (.if_icmp .eq o, 3)) (hc : a = b) (ho : 0 ≤ (pc : Int) + o) (hp : ((pc : Int) + o).toNat = pc') (hr : G h k n pc' ls st) : G h k n pc ls (.int b :: .int a :: st) := by
  obtain ⟨p, e, s, m, args, below, meth, c, hx, hby, hml, hown, hnm, hret, hlk, hZ, hw, rfl⟩ := C
  exact lift (fun T locs X _ target q => XS.icmpYes X.here hx rfl (pc0 := pc) rfl (hb hby hd) rfl (teq hc).1 ho hp q) hr
theorem Cx.icmp_eq_F (C : Cx G l Z a0 ws R y bytes maxL ret n0 Q) {a b : Int32} {o : Int} (hd : decode bytes pc = .ok (.if_icmp .eq o, 3)) (hc : ¬ a = b) (hp : pc + 3 = pc') (hr : G h k n pc' ls st) : G h k n pc ls (.int b :: .int a :: st) := by
  obtain ⟨p, e, s, m, args, below, meth, c, hx, hby, hml, hown, hnm, hret, hlk, hZ, hw, rfl⟩ := C
  subst hp
  exact lift (fun T locs X _ target q => XS.icmpNo X.here hx rfl (hb hby hd) rfl (feq hc).1 q) hr
theorem Cx.if_eq_T (C : Cx G l Z a0 ws R y bytes maxL ret n0 Q) {a : Int32} {o : Int} (hd : decode bytes pc = .ok (.ifCond .eq o, 3)) (hc : a = (0 : Int32)) (ho : 0 ≤ (pc : Int) + o) (hp : ((pc : Int) + o).toNat = pc') (hr : G h k n pc' ls st) : G h k n pc ls (.int a :: st) := by
  obtain ⟨p, e, s, m, args, below, meth, c, hx, hby, hml, hown, hnm, hret, hlk, hZ, hw, rfl⟩ := C
  exact lift (fun T locs X _ target q => XS.ifYes X.here hx rfl (pc0 := pc) rfl (hb hby hd) rfl (by rw [if0]; exact (teq hc).1) ho hp q) hr
theorem Cx.if_eq_F (C : Cx G l Z a0 ws R y bytes maxL ret n0 Q) {a : Int32} {o : Int} (hd : decode bytes pc = .ok (.ifCond .eq o, 3)) (hc : ¬ a = (0 : Int32)) (hp : pc + 3 = pc') (hr : G h k n pc' ls st) : G h k n pc ls (.int a :: st) := by
  obtain ⟨p, e, s, m, args, below, meth, c, hx, hby, hml, hown, hnm, hret, hlk, hZ, hw, rfl⟩ := C
  subst hp
  exact lift (fun T locs X _ target q => XS.ifNo X.here hx rfl (hb hby hd) rfl (by rw [if0]; exact (feq hc).1) q) hr
theorem Cx.icmp_eq (C : Cx G l Z a0 ws R y bytes maxL ret n0 Q) {a b : Int32} {o : Int} (hd : decode bytes pc = .ok (.if_icmp .eq o, 3)) (ho : 0 ≤ (pc : Int) + o) (hp : ((pc : Int) + o).toNat = pc1) (hq : pc + 3 = pc2) (h1 : a = b → G h k n pc1 ls st) (h2 : ¬ a = b → G h k n pc2 ls st) : G h k n pc ls (.int b :: .int a :: st) := by
  by_cases hc : a = b
  · exact C.icmp_eq_T hd hc ho hp (h1 hc)
  · exact C.icmp_eq_F hd hc hq (h2 hc)
theorem Cx.if_eq (C : Cx G l Z a0 ws R y bytes maxL ret n0 Q) {a : Int32} {o : Int} (hd : decode bytes pc = .ok (.ifCond .eq o, 3)) (ho : 0 ≤ (pc : Int) + o) (hp : ((pc : Int) + o).toNat = pc1) (hq : pc + 3 = pc2) (h1 : a = (0 : Int32) → G h k n pc1 ls st) (h2 : ¬ a = (0 : Int32) → G h k n pc2 ls st) : G h k n pc ls (.int a :: st) := by
  by_cases hc : a = (0 : Int32)
  · exact C.if_eq_T hd hc ho hp (h1 hc)
  · exact C.if_eq_F hd hc hq (h2 hc)
theorem Cx.icmp_ne_T (C : Cx G l Z a0 ws R y bytes maxL ret n0 Q) {a b : Int32} {o : Int} (hd : decode bytes pc = .ok (.if_icmp .ne o, 3)) (hc : ¬ a = b) (ho : 0 ≤ (pc : Int) + o) (hp : ((pc : Int) + o).toNat = pc') (hr : G h k n pc' ls st) : G h k n pc ls (.int b :: .int a :: st) := by
  obtain ⟨p, e, s, m, args, below, meth, c, hx, hby, hml, hown, hnm, hret, hlk, hZ, hw, rfl⟩ := C
  exact lift (fun T locs X _ target q => XS.icmpYes X.here hx rfl (pc0 := pc) rfl (hb hby hd) rfl (feq hc).2 ho hp q) hr
theorem Cx.icmp_ne_F (C : Cx G l Z a0 ws R y bytes maxL ret n0 Q) {a b : Int32} {o : Int} (hd : decode bytes pc = .ok (.if_icmp .ne o, 3)) (hc : a = b) (hp : pc + 3 = pc') (hr : G h k n pc' ls st) : G h k n pc ls (.int b :: .int a :: st) := by
  obtain ⟨p, e, s, m, args, below, meth, c, hx, hby, hml, hown, hnm, hret, hlk, hZ, hw, rfl⟩ := C
  subst hp
  exact lift (fun T locs X _ target q => XS.icmpNo X.here hx rfl (hb hby hd) rfl (teq hc).2 q) hr
theorem Cx.if_ne_T (C : Cx G l Z a0 ws R y bytes maxL ret n0 Q) {a : Int32} {o : Int} (hd : decode bytes pc = .ok (.ifCond .ne o, 3)) (hc : ¬ a = (0 : Int32)) (ho : 0 ≤ (pc : Int) + o) (hp : ((pc : Int) + o).toNat = pc') (hr : G h k n pc' ls st) : G h k n pc ls (.int a :: st) := by
  obtain ⟨p, e, s, m, args, below, meth, c, hx, hby, hml, hown, hnm, hret, hlk, hZ, hw, rfl⟩ := C
  exact lift (fun T locs X _ target q => XS.ifYes X.here hx rfl (pc0 := pc) rfl (hb hby hd) rfl (by rw [if0]; exact (feq hc).2) ho hp q) hr
theorem Cx.if_ne_F (C : Cx G l Z a0 ws R y bytes maxL ret n0 Q) {a : Int32} {o : Int} (hd : decode bytes pc = .ok (.ifCond .ne o, 3)) (hc : a = (0 : Int32)) (hp : pc + 3 = pc') (hr : G h k n pc' ls st) : G h k n pc ls (.int a :: st) := by
  obtain ⟨p, e, s, m, args, below, meth, c, hx, hby, hml, hown, hnm, hret, hlk, hZ, hw, rfl⟩ := C
  subst hp
  exact lift (fun T locs X _ target q => XS.ifNo X.here hx rfl (hb hby hd) rfl (by rw [if0]; exact (teq hc).2) q) hr
theorem Cx.icmp_ne (C : Cx G l Z a0 ws R y bytes maxL ret n0 Q) {a b : Int32} {o : Int} (hd : decode bytes pc = .ok (.if_icmp .ne o, 3)) (ho : 0 ≤ (pc : Int) + o) (hp : ((pc : Int) + o).toNat = pc1) (hq : pc + 3 = pc2) (h1 : ¬ a = b → G h k n pc1 ls st) (h2 : a = b → G h k n pc2 ls st) : G h k n pc ls (.int b :: .int a :: st) := by
  by_cases hc : a = b
  · exact C.icmp_ne_F hd hc hq (h2 hc)
  · exact C.icmp_ne_T hd hc ho hp (h1 hc)
theorem Cx.if_ne (C : Cx G l Z a0 ws R y bytes maxL ret n0 Q) {a : Int32} {o : Int} (hd : decode bytes pc = .ok (.ifCond .ne o, 3)) (ho : 0 ≤ (pc : Int) + o) (hp : ((pc : Int) + o).toNat = pc1) (hq : pc + 3 = pc2) (h1 : ¬ a = (0 : Int32) → G h k n pc1 ls st) (h2 : a = (0 : Int32) → G h k n pc2 ls st) : G h k n pc ls (.int a :: st) := by
  by_cases hc : a = (0 : Int32)
  · exact C.if_ne_F hd hc hq (h2 hc)
  · exact C.if_ne_T hd hc ho hp (h1 hc)
theorem Cx.icmp_lt_T (C : Cx G l Z a0 ws R y bytes maxL ret n0 Q) {a b : Int32} {o : Int} (hd : decode bytes pc = .ok (.if_icmp .lt o, 3)) (hc : a < b) (ho : 0 ≤ (pc : Int) + o) (hp : ((pc : Int) + o).toNat = pc') (hr : G h k n pc' ls st) : G h k n pc ls (.int b :: .int a :: st) := by
  obtain ⟨p, e, s, m, args, below, meth, c, hx, hby, hml, hown, hnm, hret, hlk, hZ, hw, rfl⟩ := C
  exact lift (fun T locs X _ target q => XS.icmpYes X.here hx rfl (pc0 := pc) rfl (hb hby hd) rfl (tlt hc).1 ho hp q) hr
theorem Cx.icmp_lt_F (C : Cx G l Z a0 ws R y bytes maxL ret n0 Q) {a b : Int32} {o : Int} (hd : decode bytes pc = .ok (.if_icmp .lt o, 3)) (hc : ¬ a < b) (hp : pc + 3 = pc') (hr : G h k n pc' ls st) : G h k n pc ls (.int b :: .int a :: st) := by
  obtain ⟨p, e, s, m, args, below, meth, c, hx, hby, hml, hown, hnm, hret, hlk, hZ, hw, rfl⟩ := C
  subst hp
  exact lift (fun T locs X _ target q => XS.icmpNo X.here hx rfl (hb hby hd) rfl (flt hc).1 q) hr
theorem Cx.if_lt_T (C : Cx G l Z a0 ws R y bytes maxL ret n0 Q) {a : Int32} {o : Int} (hd : decode bytes pc = .ok (.ifCond .lt o, 3)) (hc : a < (0 : Int32)) (ho : 0 ≤ (pc : Int) + o) (hp : ((pc : Int) + o).toNat = pc') (hr : G h k n pc' ls st) : G h k n pc ls (.int a :: st) := by
  obtain ⟨p, e, s, m, args, below, meth, c, hx, hby, hml, hown, hnm, hret, hlk, hZ, hw, rfl⟩ := C
  exact lift (fun T locs X _ target q => XS.ifYes X.here hx rfl (pc0 := pc) rfl (hb hby hd) rfl (by rw [if0]; exact (tlt hc).1) ho hp q) hr
theorem Cx.if_lt_F (C : Cx G l Z a0 ws R y bytes maxL ret n0 Q) {a : Int32} {o : Int} (hd : decode bytes pc = .ok (.ifCond .lt o, 3)) (hc : ¬ a < (0 : Int32)) (hp : pc + 3 = pc') (hr : G h k n pc' ls st) : G h k n pc ls (.int a :: st) := by
  obtain ⟨p, e, s, m, args, below, meth, c, hx, hby, hml, hown, hnm, hret, hlk, hZ, hw, rfl⟩ := C
  subst hp
  exact lift (fun T locs X _ target q => XS.ifNo X.here hx rfl (hb hby hd) rfl (by rw [if0]; exact (flt hc).1) q) hr
theorem Cx.icmp_lt (C : Cx G l Z a0 ws R y bytes maxL ret n0 Q) {a b : Int32} {o : Int} (hd : decode bytes pc = .ok (.if_icmp .lt o, 3)) (ho : 0 ≤ (pc : Int) + o) (hp : ((pc : Int) + o).toNat = pc1) (hq : pc + 3 = pc2) (h1 : a < b → G h k n pc1 ls st) (h2 : ¬ a < b → G h k n pc2 ls st) : G h k n pc ls (.int b :: .int a :: st) := by
  by_cases hc : a < b
  · exact C.icmp_lt_T hd hc ho hp (h1 hc)
  · exact C.icmp_lt_F hd hc hq (h2 hc)
theorem Cx.if_lt (C : Cx G l Z a0 ws R y bytes maxL ret n0 Q) {a : Int32} {o : Int} (hd : decode bytes pc = .ok (.ifCond .lt o, 3)) (ho : 0 ≤ (pc : Int) + o) (hp : ((pc : Int) + o).toNat = pc1) (hq : pc + 3 = pc2) (h1 : a < (0 : Int32) → G h k n pc1 ls st) (h2 : ¬ a < (0 : Int32) → G h k n pc2 ls st) : G h k n pc ls (.int a :: st) := by
  by_cases hc : a < (0 : Int32)
  · exact C.if_lt_T hd hc ho hp (h1 hc)
  · exact C.if_lt_F hd hc hq (h2 hc)
theorem Cx.icmp_ge_T (C : Cx G l Z a0 ws R y bytes maxL ret n0 Q) {a b : Int32} {o : Int} (hd : decode bytes pc = .ok (.if_icmp .ge o, 3)) (hc : ¬ a < b) (ho : 0 ≤ (pc : Int) + o) (hp : ((pc : Int) + o).toNat = pc') (hr : G h k n pc' ls st) : G h k n pc ls (.int b :: .int a :: st) := by
  obtain ⟨p, e, s, m, args, below, meth, c, hx, hby, hml, hown, hnm, hret, hlk, hZ, hw, rfl⟩ := C
  exact lift (fun T locs X _ target q => XS.icmpYes X.here hx rfl (pc0 := pc) rfl (hb hby hd) rfl (flt hc).2.1 ho hp q) hr
theorem Cx.icmp_ge_F (C : Cx G l Z a0 ws R y bytes maxL ret n0 Q) {a b : Int32} {o : Int} (hd : decode bytes pc = .ok (.if_icmp .ge o, 3)) (hc : a < b) (hp : pc + 3 = pc') (hr : G h k n pc' ls st) : G h k n pc ls (.int b :: .int a :: st) := by
  obtain ⟨p, e, s, m, args, below, meth, c, hx, hby, hml, hown, hnm, hret, hlk, hZ, hw, rfl⟩ := C
  subst hp
  exact lift (fun T locs X _ target q => XS.icmpNo X.here hx rfl (hb hby hd) rfl (tlt hc).2.1 q) hr
theorem Cx.if_ge_T (C : Cx G l Z a0 ws R y bytes maxL ret n0 Q) {a : Int32} {o : Int} (hd : decode bytes pc = .ok (.ifCond .ge o, 3)) (hc : ¬ a < (0 : Int32)) (ho : 0 ≤ (pc : Int) + o) (hp : ((pc : Int) + o).toNat = pc') (hr : G h k n pc' ls st) : G h k n pc ls (.int a :: st) := by
  obtain ⟨p, e, s, m, args, below, meth, c, hx, hby, hml, hown, hnm, hret, hlk, hZ, hw, rfl⟩ := C
  exact lift (fun T locs X _ target q => XS.ifYes X.here hx rfl (pc0 := pc) rfl (hb hby hd) rfl (by rw [if0]; exact (flt hc).2.1) ho hp q) hr
theorem Cx.if_ge_F (C : Cx G l Z a0 ws R y bytes maxL ret n0 Q) {a : Int32} {o : Int} (hd : decode bytes pc = .ok (.ifCond .ge o, 3)) (hc : a < (0 : Int32)) (hp : pc + 3 = pc') (hr : G h k n pc' ls st) : G h k n pc ls (.int a :: st) := by
  obtain ⟨p, e, s, m, args, below, meth, c, hx, hby, hml, hown, hnm, hret, hlk, hZ, hw, rfl⟩ := C
  subst hp
  exact lift (fun T locs X _ target q => XS.ifNo X.here hx rfl (hb hby hd) rfl (by rw [if0]; exact (tlt hc).2.1) q) hr
theorem Cx.icmp_ge (C : Cx G l Z a0 ws R y bytes maxL ret n0 Q) {a b : Int32} {o : Int} (hd : decode bytes pc = .ok (.if_icmp .ge o, 3)) (ho : 0 ≤ (pc : Int) + o) (hp : ((pc : Int) + o).toNat = pc1) (hq : pc + 3 = pc2) (h1 : ¬ a < b → G h k n pc1 ls st) (h2 : a < b → G h k n pc2 ls st) : G h k n pc ls (.int b :: .int a :: st) := by
  by_cases hc : a < b
  · exact C.icmp_ge_F hd hc hq (h2 hc)
  · exact C.icmp_ge_T hd hc ho hp (h1 hc)
theorem Cx.if_ge (C : Cx G l Z a0 ws R y bytes maxL ret n0 Q) {a : Int32} {o : Int} (hd : decode bytes pc = .ok (.ifCond .ge o, 3)) (ho : 0 ≤ (pc : Int) + o) (hp : ((pc : Int) + o).toNat = pc1) (hq : pc + 3 = pc2) (h1 : ¬ a < (0 : Int32) → G h k n pc1 ls st) (h2 : a < (0 : Int32) → G h k n pc2 ls st) : G h k n pc ls (.int a :: st) := by
  by_cases hc : a < (0 : Int32)
  · exact C.if_ge_F hd hc hq (h2 hc)
  · exact C.if_ge_T hd hc ho hp (h1 hc)
theorem Cx.icmp_gt_T (C : Cx G l Z a0 ws R y bytes maxL ret n0 Q) {a b : Int32} {o : Int} (hd : decode bytes pc = .ok (.if_icmp .gt o, 3)) (hc : b < a) (ho : 0 ≤ (pc : Int) + o) (hp : ((pc : Int) + o).toNat = pc') (hr : G h k n pc' ls st) : G h k n pc ls (.int b :: .int a :: st) := by
  obtain ⟨p, e, s, m, args, below, meth, c, hx, hby, hml, hown, hnm, hret, hlk, hZ, hw, rfl⟩ := C
  exact lift (fun T locs X _ target q => XS.icmpYes X.here hx rfl (pc0 := pc) rfl (hb hby hd) rfl (tlt hc).2.2.1 ho hp q) hr
theorem Cx.icmp_gt_F (C : Cx G l Z a0 ws R y bytes maxL ret n0 Q) {a b : Int32} {o : Int} (hd : decode bytes pc = .ok (.if_icmp .gt o, 3)) (hc : ¬ b < a) (hp : pc + 3 = pc') (hr : G h k n pc' ls st) : G h k n pc ls (.int b :: .int a :: st) := by
  obtain ⟨p, e, s, m, args, below, meth, c, hx, hby, hml, hown, hnm, hret, hlk, hZ, hw, rfl⟩ := C
  subst hp
  exact lift (fun T locs X _ target q => XS.icmpNo X.here hx rfl (hb hby hd) rfl (flt hc).2.2.1 q) hr
theorem Cx.if_gt_T (C : Cx G l Z a0 ws R y bytes maxL ret n0 Q) {a : Int32} {o : Int} (hd : decode bytes pc = .ok (.ifCond .gt o, 3)) (hc : (0 : Int32) < a) (ho : 0 ≤ (pc : Int) + o) (hp : ((pc : Int) + o).toNat = pc') (hr : G h k n pc' ls st) : G h k n pc ls (.int a :: st) := by
  obtain ⟨p, e, s, m, args, below, meth, c, hx, hby, hml, hown, hnm, hret, hlk, hZ, hw, rfl⟩ := C
  exact lift (fun T locs X _ target q => XS.ifYes X.here hx rfl (pc0 := pc) rfl (hb hby hd) rfl (by rw [if0]; exact (tlt hc).2.2.1) ho hp q) hr
theorem Cx.if_gt_F (C : Cx G l Z a0 ws R y bytes maxL ret n0 Q) {a : Int32} {o : Int} (hd : decode bytes pc = .ok (.ifCond .gt o, 3)) (hc : ¬ (0 : Int32) < a) (hp : pc + 3 = pc') (hr : G h k n pc' ls st) : G h k n pc ls (.int a :: st) := by
  obtain ⟨p, e, s, m, args, below, meth, c, hx, hby, hml, hown, hnm, hret, hlk, hZ, hw, rfl⟩ := C
  subst hp
  exact lift (fun T locs X _ target q => XS.ifNo X.here hx rfl (hb hby hd) rfl (by rw [if0]; exact (flt hc).2.2.1) q) hr
theorem Cx.icmp_gt (C : Cx G l Z a0 ws R y bytes maxL ret n0 Q) {a b : Int32} {o : Int} (hd : decode bytes pc = .ok (.if_icmp .gt o, 3)) (ho : 0 ≤ (pc : Int) + o) (hp : ((pc : Int) + o).toNat = pc1) (hq : pc + 3 = pc2) (h1 : b < a → G h k n pc1 ls st) (h2 : ¬ b < a → G h k n pc2 ls st) : G h k n pc ls (.int b :: .int a :: st) := by
  by_cases hc : b < a
  · exact C.icmp_gt_T hd hc ho hp (h1 hc)
  · exact C.icmp_gt_F hd hc hq (h2 hc)
theorem Cx.if_gt (C : Cx G l Z a0 ws R y bytes maxL ret n0 Q) {a : Int32} {o : Int} (hd : decode bytes pc = .ok (.ifCond .gt o, 3)) (ho : 0 ≤ (pc : Int) + o) (hp : ((pc : Int) + o).toNat = pc1) (hq : pc + 3 = pc2) (h1 : (0 : Int32) < a → G h k n pc1 ls st) (h2 : ¬ (0 : Int32) < a → G h k n pc2 ls st) : G h k n pc ls (.int a :: st) := by
  by_cases hc : (0 : Int32) < a
  · exact C.if_gt_T hd hc ho hp (h1 hc)
  · exact C.if_gt_F hd hc hq (h2 hc)
theorem Cx.icmp_le_T (C : Cx G l Z a0 ws R y bytes maxL ret n0 Q) {a b : Int32} {o : Int} (hd : decode bytes pc = .ok (.if_icmp .le o, 3)) (hc : ¬ b < a) (ho : 0 ≤ (pc : Int) + o) (hp : ((pc : Int) + o).toNat = pc') (hr : G h k n pc' ls st) : G h k n pc ls (.int b :: .int a :: st) := by
  obtain ⟨p, e, s, m, args, below, meth, c, hx, hby, hml, hown, hnm, hret, hlk, hZ, hw, rfl⟩ := C
  exact lift (fun T locs X _ target q => XS.icmpYes X.here hx rfl (pc0 := pc) rfl (hb hby hd) rfl (flt hc).2.2.2 ho hp q) hr
theorem Cx.icmp_le_F (C : Cx G l Z a0 ws R y bytes maxL ret n0 Q) {a b : Int32} {o : Int} (hd : decode bytes pc = .ok (.if_icmp .le o, 3)) (hc : b < a) (hp : pc + 3 = pc') (hr : G h k n pc' ls st) : G h k n pc ls (.int b :: .int a :: st) := by
  obtain ⟨p, e, s, m, args, below, meth, c, hx, hby, hml, hown, hnm, hret, hlk, hZ, hw, rfl⟩ := C
  subst hp
  exact lift (fun T locs X _ target q => XS.icmpNo X.here hx rfl (hb hby hd) rfl (tlt hc).2.2.2 q) hr
theorem Cx.if_le_T (C : Cx G l Z a0 ws R y bytes maxL ret n0 Q) {a : Int32} {o : Int} (hd : decode bytes pc = .ok (.ifCond .le o, 3)) (hc : ¬ (0 : Int32) < a) (ho : 0 ≤ (pc : Int) + o) (hp : ((pc : Int) + o).toNat = pc') (hr : G h k n pc' ls st) : G h k n pc ls (.int a :: st) := by
  obtain ⟨p, e, s, m, args, below, meth, c, hx, hby, hml, hown, hnm, hret, hlk, hZ, hw, rfl⟩ := C
  exact lift (fun T locs X _ target q => XS.ifYes X.here hx rfl (pc0 := pc) rfl (hb hby hd) rfl (by rw [if0]; exact (flt hc).2.2.2) ho hp q) hr
theorem Cx.if_le_F (C : Cx G l Z a0 ws R y bytes maxL ret n0 Q) {a : Int32} {o : Int} (hd : decode bytes pc = .ok (.ifCond .le o, 3)) (hc : (0 : Int32) < a) (hp : pc + 3 = pc') (hr : G h k n pc' ls st) : G h k n pc ls (.int a :: st) := by
  obtain ⟨p, e, s, m, args, below, meth, c, hx, hby, hml, hown, hnm, hret, hlk, hZ, hw, rfl⟩ := C
  subst hp
  exact lift (fun T locs X _ target q => XS.ifNo X.here hx rfl (hb hby hd) rfl (by rw [if0]; exact (tlt hc).2.2.2) q) hr
theorem Cx.icmp_le (C : Cx G l Z a0 ws R y bytes maxL ret n0 Q) {a b : Int32} {o : Int} (hd : decode bytes pc = .ok (.if_icmp .le o, 3)) (ho : 0 ≤ (pc : Int) + o) (hp : ((pc : Int) + o).toNat = pc1) (hq : pc + 3 = pc2) (h1 : ¬ b < a → G h k n pc1 ls st) (h2 : b < a → G h k n pc2 ls st) : G h k n pc ls (.int b :: .int a :: st) := by
  by_cases hc : b < a
  · exact C.icmp_le_F hd hc hq (h2 hc)
  · exact C.icmp_le_T hd hc ho hp (h1 hc)
theorem Cx.if_le (C : Cx G l Z a0 ws R y bytes maxL ret n0 Q) {a : Int32} {o : Int} (hd : decode bytes pc = .ok (.ifCond .le o, 3)) (ho : 0 ≤ (pc : Int) + o) (hp : ((pc : Int) + o).toNat = pc1) (hq : pc + 3 = pc2) (h1 : ¬ (0 : Int32) < a → G h k n pc1 ls st) (h2 : (0 : Int32) < a → G h k n pc2 ls st) : G h k n pc ls (.int a :: st) := by
  by_cases hc : (0 : Int32) < a
  · exact C.if_le_F hd hc hq (h2 hc)
  · exact C.if_le_T hd hc ho hp (h1 hc)
theorem Cx.ldcI (C : Cx G l Z a0 ws R y bytes maxL ret n0 Q) {i idx : Nat} {v : Int32} (w : ws[i]? = some (Jvm.Cond.constant y.cls idx v)) (hd : decode bytes pc = .ok (.ldc idx, 2)) (hp : pc + 2 = pc') (hr : G h k n pc' ls (.int v :: st)) : G h k n pc ls st := by
  obtain ⟨p, e, s, m, args, below, meth, c, hx, hby, hml, hown, hnm, hret, hlk, hZ, hw, rfl⟩ := C
  subst hp
  exact lift (fun T locs X _ target q => X.ldcInt hx hown (mvT hZ (word hw w)) (g := mkF m pc ls st) rfl (hb hby hd) target q) hr
theorem Cx.ldcJ (C : Cx G l Z a0 ws R y bytes maxL ret n0 Q) {i idx : Nat} {v : Int64} (w : ws[i]? = some (Jvm.Cond.constantLong y.cls idx v)) (hd : decode bytes pc = .ok (.ldc2_w idx, 3)) (hp : pc + 3 = pc') (hr : G h k n pc' ls (.long v :: st)) : G h k n pc ls st := by
  obtain ⟨p, e, s, m, args, below, meth, c, hx, hby, hml, hown, hnm, hret, hlk, hZ, hw, rfl⟩ := C
  subst hp
  exact lift (fun T locs X _ target q => X.ldc2Long hx hown (mvT hZ (word hw w)) (g := mkF m pc ls st) rfl (hb hby hd) target q) hr
theorem Cx.ldcD (C : Cx G l Z a0 ws R y bytes maxL ret n0 Q) {i idx : Nat} {v : UInt64} (w : ws[i]? = some (Jvm.Cond.constantDouble y.cls idx v)) (hd : decode bytes pc = .ok (.ldc2_w idx, 3)) (hp : pc + 3 = pc') (hr : G h k n pc' ls (.double v :: st)) : G h k n pc ls st := by
  obtain ⟨p, e, s, m, args, below, meth, c, hx, hby, hml, hown, hnm, hret, hlk, hZ, hw, rfl⟩ := C
  subst hp
  exact lift (fun T locs X _ target q => X.ldc2DoubleC hx hown (mvT hZ (word hw w)) (g := mkF m pc ls st) rfl (hb hby hd) target q) hr
theorem castI {a b : Int32} (q : a = b) (hr : G h k n pc ls (.int b :: st)) : G h k n pc ls (.int a :: st) := by rw [q]; exact hr
theorem castJ {a b : Int64} (q : a = b) (hr : G h k n pc ls (.long b :: st)) : G h k n pc ls (.long a :: st) := by rw [q]; exact hr
theorem cmpL_lt {a b : Int64} : XT.cmpL a b < 0 ↔ a < b := by
  unfold XT.cmpL
  split
  · rename_i q; constructor
    · intro r; exact absurd r (by decide)
    · intro r; rw [Int64.lt_iff_toInt_lt] at q r; omega
  · split
    · rename_i q; subst q; constructor
      · intro r; exact absurd r (by decide)
      · intro r; rw [Int64.lt_iff_toInt_lt] at r; omega
    · rename_i p q; constructor
      · intro _; rw [Int64.lt_iff_toInt_lt] at p ⊢; have : a.toInt ≠ b.toInt := fun r => q (Int64.toInt_inj.mp r); omega
      · intro _; decide
theorem cmpL_gt {a b : Int64} : 0 < XT.cmpL a b ↔ b < a := by
  unfold XT.cmpL
  split
  · rename_i q; exact ⟨fun _ => q, fun _ => by decide⟩
  · rename_i p
    split
    · exact ⟨fun r => absurd r (by decide), fun r => absurd r p⟩
    · exact ⟨fun r => absurd r (by decide), fun r => absurd r p⟩
theorem cmpL_eq {a b : Int64} : XT.cmpL a b = 0 ↔ a = b := by
  unfold XT.cmpL
  split
  · rename_i q; constructor
    · intro r; exact absurd r (by decide)
    · intro r; subst r; rw [Int64.lt_iff_toInt_lt] at q; omega
  · split
    · rename_i q; exact ⟨fun _ => q, fun _ => rfl⟩
    · rename_i q; exact ⟨fun r => absurd r (by decide), fun r => absurd r q⟩
def b2i (b : Bool) : Int32 := match b with | true => 1 | false => 0
theorem b2i_f {b : Bool} (q : b2i b = 0) : b = false := by cases b with | false => rfl | true => exact absurd q (by decide)
theorem b2i_t {b : Bool} (q : ¬ b2i b = 0) : b = true := by cases b with | true => rfl | false => exact absurd rfl q
theorem nar_b (x : Int32) : nar .byte x.toInt8.toInt32 = x.toInt8.toInt32 := by simp [nar]
theorem Cx.ireturn (C : Cx G l Z a0 ws R y bytes maxL ret n0 Q) {a : Int32} (hd : decode bytes pc = .ok (.ireturn, 1)) (ht : ret = some .int) (hk : k ≤ R.cells) (hn : n ≤ R.slots) (hq : Q (some (.int a)) h) : G h k n pc ls (.int a :: st) := by
  obtain ⟨p, e, s, m, args, below, meth, c, hx, hby, hml, hown, hnm, hret, hlk, hZ, hw, rfl⟩ := C
  subst ht
  intro T locs X hT hF
  obtain ⟨fs, hr, hrun, hended, hW, hsame⟩ := X.leave (v := some (.int a)) (fun q => by rw [hret] at q; cases q) hlk
  refine ⟨_, _, retOut X hx hret rfl (Or.inl ⟨rfl, Or.inl rfl, a, rfl⟩) (hb hby hd) hr, hrun, hended, _, locs, rfl, ⟨?_, hF⟩, ⟨_, rfl⟩, hW, hsame.mono hk hn⟩
  show Q _ T.heap
  rw [hT]; exact hq
theorem Cx.nreturn (C : Cx G l Z a0 ws R y bytes maxL ret n0 Q) {a b : Int32} {t : FieldType} (hd : decode bytes pc = .ok (.ireturn, 1)) (ht : ret = some t) (ht' : t = .boolean ∨ t = .byte ∨ t = .char ∨ t = .short) (hk : k ≤ R.cells) (hn : n ≤ R.slots) (hb' : nar t a = b) (hq : Q (some (.int b)) h) : G h k n pc ls (.int a :: st) := by
  obtain ⟨p, e, s, m, args, below, meth, c, hx, hby, hml, hown, hnm, hret, hlk, hZ, hw, rfl⟩ := C
  subst ht hb'
  intro T locs X hT hF
  obtain ⟨fs, hr, hrun, hended, hW, hsame⟩ := X.leave (v := some (.int (nar t a))) (fun q => by rw [hret] at q; cases q) hlk
  refine ⟨_, _, retN X hx hret ht' (hb hby hd) hr, hrun, hended, _, locs, rfl, ⟨?_, hF⟩, ⟨_, rfl⟩, hW, hsame.mono hk hn⟩
  show Q _ T.heap
  rw [hT]; exact hq
theorem Cx.lreturn (C : Cx G l Z a0 ws R y bytes maxL ret n0 Q) {a : Int64} (hd : decode bytes pc = .ok (.lreturn, 1)) (ht : ret = some .long) (hk : k ≤ R.cells) (hn : n ≤ R.slots) (hq : Q (some (.long a)) h) : G h k n pc ls (.long a :: st) := by
  obtain ⟨p, e, s, m, args, below, meth, c, hx, hby, hml, hown, hnm, hret, hlk, hZ, hw, rfl⟩ := C
  subst ht
  intro T locs X hT hF
  obtain ⟨fs, hr, hrun, hended, hW, hsame⟩ := X.leave (v := some (.long a)) (fun q => by rw [hret] at q; cases q) hlk
  refine ⟨_, _, retOut X hx hret rfl (Or.inr (Or.inl ⟨rfl, rfl, a, rfl⟩)) (hb hby hd) hr, hrun, hended, _, locs, rfl, ⟨?_, hF⟩, ⟨_, rfl⟩, hW, hsame.mono hk hn⟩
  show Q _ T.heap
  rw [hT]; exact hq
theorem Cx.areturn (C : Cx G l Z a0 ws R y bytes maxL ret n0 Q) {a : Addr} {t : FieldType} (hd : decode bytes pc = .ok (.areturn, 1)) (ht : ret = some t) (ht' : t.isReference = true) (hnr : narrow t (.ref a) = .ref a) (hk : k ≤ R.cells) (hn : n ≤ R.slots) (hq : Q (some (.ref a)) h) : G h k n pc ls (.ref a :: st) := by
  obtain ⟨p, e, s, m, args, below, meth, c, hx, hby, hml, hown, hnm, hret, hlk, hZ, hw, rfl⟩ := C
  subst ht
  intro T locs X hT hF
  obtain ⟨fs, hr, hrun, hended, hW, hsame⟩ := X.leave (v := some (.ref a)) (fun q => by rw [hret] at q; cases q) hlk
  refine ⟨_, _, retOut X hx hret hnr (Or.inr (Or.inr (Or.inr (Or.inr ⟨rfl, ht', rfl⟩)))) (hb hby hd) hr, hrun, hended, _, locs, rfl, ⟨?_, hF⟩, ⟨_, rfl⟩, hW, hsame.mono hk hn⟩
  show Q _ T.heap
  rw [hT]; exact hq
theorem Cx.vreturn (C : Cx G l Z a0 ws R y bytes maxL ret n0 Q) (hd : decode bytes pc = .ok (.return_, 1)) (ht : ret = none) (hk : k ≤ R.cells) (hn : n ≤ R.slots) (hq : Q none h) : G h k n pc ls [] := by
  obtain ⟨p, e, s, m, args, below, meth, c, hx, hby, hml, hown, hnm, hret, hlk, hZ, hw, rfl⟩ := C
  subst ht
  intro T locs X hT hF
  obtain ⟨fs, hr, hrun, hended, hW, hsame⟩ := X.leave (v := none) (fun _ => rfl) hlk
  refine ⟨_, _, X.returnOut hx hret (hb hby hd) hr, hrun, hended, _, locs, rfl, ⟨?_, hF⟩, ⟨_, rfl⟩, hW, hsame.mono hk hn⟩
  show Q _ T.heap
  rw [hT]; exact hq
def Lst (Z : State) (h : Heap) (a : Addr) (ty : FieldType) (vs : List Value) : Prop := ∃ c : Cell, Arr Z h a c ty ∧ c.slots = vs.toArray
theorem Lst.lt {Z : State} {h : Heap} {a : Addr} {ty : FieldType} {vs : List Value} (F : Lst Z h a ty vs) : a < h.size := by obtain ⟨c, A, -⟩ := F; exact A.lt
theorem Lst.ext {Z : State} {h h' : Heap} {a : Addr} {ty : FieldType} {vs : List Value} (F : Lst Z h a ty vs) (E : Ext h h') : Lst Z h' a ty vs := by obtain ⟨c, A, r⟩ := F; exact ⟨c, A.ext E, r⟩
theorem Lst.other {Z : State} {h h' : Heap} {a b : Addr} {sl : Nat} {v : Value} {ty : FieldType} {vs : List Value} (F : Lst Z h b ty vs) (W : Wr h h' a sl v) (q : b ≠ a) : Lst Z h' b ty vs := by obtain ⟨c, A, r⟩ := F; exact ⟨c, A.other W q, r⟩
theorem Lst.keep {Z : State} {h h' : Heap} {a : Addr} {wr : List Addr} {ty : FieldType} {vs : List Value} (F : Lst Z h a ty vs) (K : Keep h h' wr) (q : a ∉ wr) : Lst Z h' a ty vs := by obtain ⟨c, A, r⟩ := F; exact ⟨c, ⟨K.2.1 a c A.1 q, A.2⟩, r⟩
def Idx (j : Int32) (i : Nat) : Prop := ¬ j < 0 ∧ j.toNatClampNeg = i
theorem Idx.of {j : Int32} {i : Nat} (h : j.toInt = (i : Int)) : Idx j i := by
  refine ⟨fun q => ?_, ?_⟩
  · rw [Int32.lt_iff_toInt_lt] at q; have : (0 : Int32).toInt = 0 := rfl; omega
  · simp only [Int32.toNatClampNeg]; omega
theorem Idx.int {j : Int32} {i : Nat} (h : Idx j i) : j.toInt = (i : Int) := by rw [nat_of h.1, h.2]
theorem Idx.bound {j : Int32} {i : Nat} {c : Cell} {vs : List Value} (h : Idx j i) (r : c.slots = vs.toArray) (hi : i < vs.length) : ¬ (j < 0 ∨ c.slots.size ≤ j.toNatClampNeg) := by
  rintro (q | q)
  · exact h.1 q
  · rw [h.2, r] at q; simp at q; omega
theorem Cx.arraylength (C : Cx G l Z a0 ws R y bytes maxL ret n0 Q) {a : Addr} {ty : FieldType} {vs : List Value} {N : Int32} (A : Lst Z h a ty vs) (hN : vs.length.toInt32 = N) (hd : decode bytes pc = .ok (.arraylength, 1)) (hp : pc + 1 = pc') (hr : G h k n pc' ls (.int N :: st)) : G h k n pc ls (.ref a :: st) := by
  obtain ⟨p, e, s, m, args, below, meth, c, hx, hby, hml, hown, hnm, hret, hlk, hZ, hw, rfl⟩ := C
  subst hp hN
  obtain ⟨cl, A, r⟩ := A
  refine lift (fun T locs X hT target q => X.arraylength hx (by rw [hT]; exact A.1) (State.isArrayOf_alike hZ.alike A.2.1) (g := mkF m pc ls (.ref a :: st)) rfl rfl (hb hby hd) target ?_) hr
  rw [r]; exact q
theorem Cx.iaload (C : Cx G l Z a0 ws R y bytes maxL ret n0 Q) {a : Addr} {vs : List Value} {j : Int32} {i : Nat} {v : Value} (A : Lst Z h a .int vs) (hj : Idx j i) (hv : vs[i]? = some v) (hd : decode bytes pc = .ok (.iaload, 1)) (hp : pc + 1 = pc') (hr : G h k n pc' ls (v :: st)) : G h k n pc ls (.int j :: .ref a :: st) := by
  obtain ⟨p, e, s, m, args, below, meth, c, hx, hby, hml, hown, hnm, hret, hlk, hZ, hw, rfl⟩ := C
  subst hp
  obtain ⟨cl, A, r⟩ := A
  exact lift (fun T locs X hT target q => X.iaload hx (by rw [hT]; exact A.1) (State.isArrayOf_alike hZ.alike A.2.1) A.2.2 (hj.bound r (List.getElem?_eq_some_iff.mp hv).1) (by rw [hj.2, r]; simpa using hv) (g := mkF m pc ls (.int j :: .ref a :: st)) rfl rfl (hb hby hd) target q) hr
theorem Cx.baload (C : Cx G l Z a0 ws R y bytes maxL ret n0 Q) {a : Addr} {vs : List Value} {j : Int32} {i : Nat} {v : Value} (A : Lst Z h a .byte vs) (hj : Idx j i) (hv : vs[i]? = some v) (hd : decode bytes pc = .ok (.baload, 1)) (hp : pc + 1 = pc') (hr : G h k n pc' ls (v :: st)) : G h k n pc ls (.int j :: .ref a :: st) := by
  obtain ⟨p, e, s, m, args, below, meth, c, hx, hby, hml, hown, hnm, hret, hlk, hZ, hw, rfl⟩ := C
  subst hp
  obtain ⟨cl, A, r⟩ := A
  exact lift (fun T locs X hT target q => X.baloadBytes hx (by rw [hT]; exact A.1) (State.isArrayOf_alike hZ.alike A.2.1) A.2.2 (hj.bound r (List.getElem?_eq_some_iff.mp hv).1) (by rw [hj.2, r]; simpa using hv) (g := mkF m pc ls (.int j :: .ref a :: st)) rfl rfl (hb hby hd) target q) hr
theorem Lst.same {Z : State} {h h' : Heap} {a : Addr} {i : Nat} {v : Value} {ty : FieldType} {vs : List Value} (F : Lst Z h a ty vs) (W : Wr h h' a i v) : Lst Z h' a ty (vs.set i v) := by
  obtain ⟨c, A, r⟩ := F
  exact ⟨_, A.same W, by simp [Cell.setSlot, r]⟩
theorem Cx.iastore (C : Cx G l Z a0 ws R y bytes maxL ret n0 Q) {a : Addr} {vs vs' : List Value} {j x : Int32} {i : Nat} (A : Lst Z h a .int vs) (hj : Idx j i) (hi : i < vs.length) (hs : vs.set i (.int x) = vs') (ga : n0 ≤ a) (hd : decode bytes pc = .ok (.iastore, 1)) (hp : pc + 1 = pc') (hr : ∀ h', Wr h h' a i (.int x) → Lst Z h' a .int vs' → G h' k n pc' ls st) : G h k n pc ls (.int x :: .int j :: .ref a :: st) := by
  obtain ⟨p, e, s, m, args, below, meth, c, hx, hby, hml, hown, hnm, hret, hlk, hZ, hw, rfl⟩ := C
  subst hp hs
  have A' := A
  obtain ⟨cl, A, r⟩ := A
  intro T locs X hT hF
  obtain ⟨T', h', X', e', W', s'⟩ := stI X hx hZ hT A (hj.bound r hi) (g := mkF m pc ls (.int x :: .int j :: .ref a :: st)) rfl rfl (hb hby hd)
  rw [hj.2] at W'
  obtain ⟨s₂, o, h1, h2⟩ := hr h' W' (A'.same W') T' _ X' e' (Fr.snoc X' hF ga)
  exact ⟨s₂, o, s' _ h1, h2⟩
theorem Cx.bastore (C : Cx G l Z a0 ws R y bytes maxL ret n0 Q) {a : Addr} {vs vs' : List Value} {j x x' : Int32} {i : Nat} (A : Lst Z h a .byte vs) (hj : Idx j i) (hi : i < vs.length) (hx' : nar .byte x = x') (hs : vs.set i (.int x') = vs') (ga : n0 ≤ a) (hd : decode bytes pc = .ok (.bastore, 1)) (hp : pc + 1 = pc') (hr : ∀ h', Wr h h' a i (.int x') → Lst Z h' a .byte vs' → G h' k n pc' ls st) : G h k n pc ls (.int x :: .int j :: .ref a :: st) := by
  obtain ⟨p, e, s, m, args, below, meth, c, hx, hby, hml, hown, hnm, hret, hlk, hZ, hw, rfl⟩ := C
  subst hp hs hx'
  have A' := A
  obtain ⟨cl, A, r⟩ := A
  intro T locs X hT hF
  obtain ⟨T', h', X', e', W', s'⟩ := stB X hx hZ hT A (hj.bound r hi) (g := mkF m pc ls (.int x :: .int j :: .ref a :: st)) rfl rfl (hb hby hd)
  rw [hj.2] at W'
  obtain ⟨s₂, o, h1, h2⟩ := hr h' W' (A'.same W') T' _ X' e' (Fr.snoc X' hF ga)
  exact ⟨s₂, o, s' _ h1, h2⟩
theorem Cx.dastore (C : Cx G l Z a0 ws R y bytes maxL ret n0 Q) {a : Addr} {vs : List Value} {j : Int32} {x : UInt64} {i : Nat} (A : Lst Z h a .double vs) (hj : Idx j i) (hi : i < vs.length) (ga : n0 ≤ a) (hd : decode bytes pc = .ok (.dastore, 1)) (hp : pc + 1 = pc') (hr : ∀ h', Wr h h' a i (.double x) → Lst Z h' a .double (vs.set i (.double x)) → G h' k n pc' ls st) : G h k n pc ls (.double x :: .int j :: .ref a :: st) := by
  obtain ⟨p, e, s, m, args, below, meth, c, hx, hby, hml, hown, hnm, hret, hlk, hZ, hw, rfl⟩ := C
  subst hp
  have A' := A
  obtain ⟨cl, A, r⟩ := A
  intro T locs X hT hF
  obtain ⟨T', h', X', e', W', s'⟩ := stD X hx hZ hT A (hj.bound r hi) (g := mkF m pc ls (.double x :: .int j :: .ref a :: st)) rfl rfl (hb hby hd)
  rw [hj.2] at W'
  obtain ⟨s₂, o, h1, h2⟩ := hr h' W' (A'.same W') T' _ X' e' (Fr.snoc X' hF ga)
  exact ⟨s₂, o, s' _ h1, h2⟩
theorem Cx.newarray (C : Cx G l Z a0 ws R y bytes maxL ret n0 Q) {w : Nat} {aty : ArrayType} {ty : FieldType} {d : Value} {vs : List Value} {len : Int32} {N cap : Nat} (hty : newarray.typeOf aty = ty) (hwd : ws[w]? = some (Jvm.Cond.arrayClass ty)) (hj : Idx len N) (hdv : defaultValue ty = d) (hvs : List.replicate N d = vs) (hcap : N ≤ cap) (hb8 : cap * 8 ≤ 536870912) (hc : k + 1 ≤ R.cells) (hl : n + cap ≤ R.slots) (hd : decode bytes pc = .ok (.newarray aty, 2)) (hp : pc + 2 = pc')
    (hr : ∀ h' a, a = h.size → Ext h h' → Lst Z h' a ty vs → G h' (k + 1) (n + cap) pc' ls (.ref a :: st)) : G h k n pc ls (.int len :: st) := by
  obtain ⟨p, e, s, m, args, below, meth, c, hx, hby, hml, hown, hnm, hret, hlk, hZ, hw, rfl⟩ := C
  subst hp hty hdv hvs
  intro T locs X hT hF
  obtain ⟨T', h', cA, X', e', E', A', s'⟩ := newP X hx hZ (word hw hwd) hT (g := mkF m pc ls (.int len :: st)) rfl (hb hby hd) rfl hj.1 (cap := cap) (by rw [hj.2]; exact hcap) hb8 hc hl
  obtain ⟨s₂, o, h1, h2⟩ := hr h' h.size rfl E' ⟨_, A', by simp [newA, hj.2]⟩ T' _ X' e' hF
  exact ⟨s₂, o, s' _ h1, h2⟩
theorem Cx.newO (C : Cx G l Z a0 ws R y bytes maxL ret n0 Q) {i1 i2 i3 idx nn : Nat} {K : String} (w1 : ws[i1]? = some (Jvm.Cond.classLink y.cls idx K)) (w2 : ws[i2]? = some (Jvm.Cond.instantiable K nn)) (w3 : ws[i3]? = some (Jvm.Cond.initialized K)) (hc : k + 1 ≤ R.cells) (hl : n + nn ≤ R.slots) (hd : decode bytes pc = .ok (.new idx, 3)) (hp : pc + 3 = pc')
    (hr : ∀ h' a, a = h.size → Ext h h' → Exa Z h' a K → (∀ {O nm d : String} {ty : FieldType}, Laid Z a0 K O nm d → parseFieldDescriptor d = some ty → Fld Z h' a O nm d (defaultValue ty)) → G h' (k + 1) (n + nn) pc' ls (.ref a :: st)) : G h k n pc ls st := by
  obtain ⟨p, e, s, m, args, below, meth, c, hx, hby, hml, hown, hnm, hret, hlk, hZ, hw, rfl⟩ := C
  subst hp
  intro T locs X hT hF
  obtain ⟨T', h', X', e', E', A', D', -, s'⟩ := RoadKit.newO X hx hZ hown (word hw w1) (word hw w2) (word hw w3) hT (g := mkF m pc ls st) rfl (hb hby hd) hc hl
  obtain ⟨s₂, o, h1, h2⟩ := hr h' h.size rfl E' A' D' T' _ X' e' hF
  exact ⟨s₂, o, s' _ h1, h2⟩
theorem Cx.getfield (C : Cx G l Z a0 ws R y bytes maxL ret n0 Q) {i idx : Nat} {O f d : String} {a : Addr} {v : Value} (w : ws[i]? = some (Jvm.Cond.fieldLink y.cls idx O f d)) (F : Fld Z h a O f d v) (hd : decode bytes pc = .ok (.getfield idx, 3)) (hp : pc + 3 = pc') (hr : G h k n pc' ls (v :: st)) : G h k n pc ls (.ref a :: st) := by
  obtain ⟨p, e, s, m, args, below, meth, c, hx, hby, hml, hown, hnm, hret, hlk, hZ, hw, rfl⟩ := C
  subst hp
  intro T locs X hT hF
  obtain ⟨T', X', e', s'⟩ := getF X hx hZ hown (host := "") (Or.inl (word hw w)) Via.refl hT F (g := mkF m pc ls (.ref a :: st)) rfl rfl (hb hby hd)
  obtain ⟨s₂, o, h1, h2⟩ := hr T' _ X' e' hF
  exact ⟨s₂, o, s' _ h1, h2⟩
theorem Cx.getstatic (C : Cx G l Z a0 ws R y bytes maxL ret n0 Q) {i idx : Nat} {O f d : String} {v : Value} (w : ws[i]? = some (Jvm.Cond.fieldLink y.cls idx O f d)) (F : Sta Z h O f d v) (hd : decode bytes pc = .ok (.getstatic idx, 3)) (hp : pc + 3 = pc') (hr : G h k n pc' ls (v :: st)) : G h k n pc ls st := by
  obtain ⟨p, e, s, m, args, below, meth, c, hx, hby, hml, hown, hnm, hret, hlk, hZ, hw, rfl⟩ := C
  subst hp
  intro T locs X hT hF
  obtain ⟨T', X', e', s'⟩ := getS X hx hZ (host := "") hown (word hw w) Via.refl hT F (g := mkF m pc ls st) rfl (hb hby hd)
  obtain ⟨s₂, o, h1, h2⟩ := hr T' _ X' e' hF
  exact ⟨s₂, o, s' _ h1, h2⟩
theorem Cx.putfield (C : Cx G l Z a0 ws R y bytes maxL ret n0 Q) {i i2 i3 idx kk : Nat} {O f d K : String} {a : Addr} {v v' old : Value} {ty : FieldType} (w : ws[i]? = some (Jvm.Cond.fieldLink y.cls idx O f d)) (w2 : ws[i2]? = some (Jvm.Cond.lays K O f d) ∨ (ws[i2]? = some (Jvm.Cond.laysFinal K O f d) ∧ y.cls = O ∧ y.name = "<init>")) (w3 : ws[i3]? = some (Jvm.Cond.instantiable K kk)) (F : Fld Z h a O f d old) (E : Exa Z h a K) (hty : parseFieldDescriptor d = some ty) (hnv : narrow ty v = v') (hfv : fits ty v' = true) (ga : n0 ≤ a) (hd : decode bytes pc = .ok (.putfield idx, 3)) (hp : pc + 3 = pc')
    (hr : ∀ h', Wr h h' a (Jvm.RoadKit.slotOf Z O f d) v' → G h' k n pc' ls st) : G h k n pc ls (v :: .ref a :: st) := by
  obtain ⟨p, e, s, m, args, below, meth, c, hx, hby, hml, hown, hnm, hret, hlk, hZ, hw, rfl⟩ := C
  subst hp
  intro T locs X hT hF
  obtain ⟨T', h', X', e', W', s'⟩ := putFN X hx hZ hown (word hw w) Via.refl hT F E (w2.elim (fun q => Or.inl (word hw q)) (fun q => Or.inr ⟨word hw q.1, q.2.1, hnm.trans q.2.2⟩)) (word hw w3) hty hnv hfv (g := mkF m pc ls (v :: .ref a :: st)) rfl rfl (hb hby hd)
  obtain ⟨s₂, o, h1, h2⟩ := hr h' W' T' _ X' e' (Fr.snoc X' hF ga)
  exact ⟨s₂, o, s' _ h1, h2⟩
theorem Cx.initO (C : Cx G l Z a0 ws R y bytes maxL ret n0 Q) {i1 i2 i3 idx W : Nat} {a : Addr} (w1 : ws[i1]? = some (Jvm.Cond.methodLink y.cls idx Lib.objectInit)) (w2 : ws[i2]? = some (Jvm.Cond.instanceMethod Lib.objectInit)) (w3 : ws[i3]? = some (Jvm.Cond.code Lib.objectInit Jvm.LibCode.Object.Init0.code 1 none)) (hsz : ls.size = maxL) (hf : 1 ≤ R.frames) (hW : (st.map fun v => v.category).sum = W) (hl : W + 12 ≤ R.locals) (hd : decode bytes pc = .ok (.invokespecial idx, 3)) (hp : pc + 3 = pc') (hr : G h k n pc' ls st) : G h k n pc ls (.ref a :: st) := by
  obtain ⟨p, e, s, m, args, below, meth, c, hx, hby, hml, hown, hnm, hret, hlk, hZ, hw, rfl⟩ := C
  subst hp
  intro T locs X hT hF
  obtain ⟨T', X', e', s'⟩ := RoadKit.initO X hx hZ hown (word hw w1) (word hw w2) (word hw w3) hT (g := mkF m pc ls (.ref a :: st)) rfl (by rw [hml]; exact hsz) rfl (hb hby hd) hf (W := W) (by rw [← hW]; show 2 * 0 + _ ≤ _; omega) hl
  obtain ⟨s₂, o, h1, h2⟩ := hr T' _ X' e' hF
  exact ⟨s₂, o, s' _ h1, h2⟩
theorem Cx.callS (C : Cx G l Z a0 ws R y bytes maxL ret n0 Q) {y' : MethodName} {bytes' : ByteArray} {maxL' : Nat} {ret' : Option FieldType} {rm : Room} {as : Array Value} {Q' : Option Value → Heap → Prop} (hM : Ctr l Z y' bytes' maxL' ret' rm n0 as h Q' []) {i1 i2 i3 i4 idx W : Nat} (w1 : ws[i1]? = some (Jvm.Cond.methodLink y.cls idx y')) (w2 : ws[i2]? = some (Jvm.Cond.static y')) (w3 : ws[i3]? = some (Jvm.Cond.initialized y'.cls)) (w4 : ws[i4]? = some (Jvm.Cond.code y' bytes' maxL' ret'))
    (hy : y'.cls ≠ "java/lang/invoke/MethodHandle" ∧ y'.cls ≠ "java/lang/invoke/VarHandle") {argsL : List Value} {ps : List FieldType} {rt : Option FieldType} (hps : parseMethodDescriptor y'.desc = some ⟨ps, rt⟩) (hln : argsL.length = ps.length) (has : argsL.toArray = as) (hst : st = argsL.reverse ++ rest) (hsz : ls.size = maxL) (hW : (rest.map fun v => v.category).sum = W) (hf : rm.frames + 1 ≤ R.frames) (hl : W + (maxL' + 11) + rm.locals ≤ R.locals) (hc : k + rm.cells ≤ R.cells) (hn : n + rm.slots ≤ R.slots) (hd : decode bytes pc = .ok (.invokestatic idx, 3)) (hp : pc + 3 = pc') (hk' : k + rm.cells = k') (hn' : n + rm.slots = n')
    (hr : ∀ v h', Q' v h' → G h' k' n' pc' ls (v.toList ++ rest)) : G h k n pc ls st := by
  obtain ⟨p, e, s, m, args, below, meth, c, hx, hby, hml, hown, hnm, hret, hlk, hZ, hw, rfl⟩ := C
  subst hp has hst hk' hn'
  intro T locs X hT hF
  obtain ⟨v, _, ⟨T', L', k9, n9⟩, -, X', ⟨Lc, hQ, e1, e2, e3⟩, s'⟩ := Jvm.LawKit.callS X hx (y := y') hown (mvT hZ (word hw w1)) (mvT hZ (word hw w2)) (mvT hZ (word hw w3)) (mvT hZ (word hw w4)) hy (backOf (Q := fun v h L => Q' v h ∧ Fr n0 L) (W := W) hM hZ (word hw w4) (word hw w3) hf hl) (g := mkF m pc ls (argsL.reverse ++ rest)) rfl (by rw [hml]; exact hsz) (argsL := argsL) (rest := rest) (lenOf hps hln) rfl (by rw [← hW]; show 2 * 0 + _ ≤ _; omega) (hb hby hd) (fun _ _ => ⟨rfl, hT, hc, hn⟩)
  dsimp only [Pt.U, Pt.locs, Pt.cells, Pt.slots] at X' e1 e2 e3 s' hQ
  subst e1 e2 e3
  obtain ⟨s₂, o, h1, h2⟩ := hr v T'.heap hQ.1 T' _ X' rfl (Fr.app hF hQ.2)
  exact ⟨s₂, o, s' _ h1, h2⟩
theorem Cx.callI (C : Cx G l Z a0 ws R y bytes maxL ret n0 Q) {y' : MethodName} {bytes' : ByteArray} {maxL' : Nat} {rm : Room} {as : Array Value} {Q' : Option Value → Heap → Prop} {a : Addr} (hM : Ctr l Z y' bytes' maxL' none rm n0 as h Q' []) {i1 i2 i3 i4 idx W : Nat} (w1 : ws[i1]? = some (Jvm.Cond.methodLink y.cls idx y')) (w2 : ws[i2]? = some (Jvm.Cond.instanceMethod y')) (w3 : ws[i3]? = some (Jvm.Cond.initialized y'.cls)) (w4 : ws[i4]? = some (Jvm.Cond.code y' bytes' maxL' none)) (hi : y'.name = "<init>")
    (hy : y'.cls ≠ "java/lang/invoke/MethodHandle" ∧ y'.cls ≠ "java/lang/invoke/VarHandle") {argsL : List Value} {ps : List FieldType} {rt : Option FieldType} (hps : parseMethodDescriptor y'.desc = some ⟨ps, rt⟩) (hln : argsL.length = ps.length) (has : (.ref a :: argsL).toArray = as) (hst : st = argsL.reverse ++ .ref a :: rest) (hsz : ls.size = maxL) (hW : (rest.map fun v => v.category).sum = W) (hf : rm.frames + 1 ≤ R.frames) (hl : W + (maxL' + 11) + rm.locals ≤ R.locals) (hc : k + rm.cells ≤ R.cells) (hn : n + rm.slots ≤ R.slots) (hd : decode bytes pc = .ok (.invokespecial idx, 3)) (hp : pc + 3 = pc') (hk' : k + rm.cells = k') (hn' : n + rm.slots = n')
    (hr : ∀ v h', Q' v h' → G h' k' n' pc' ls (v.toList ++ rest)) : G h k n pc ls st := by
  obtain ⟨p, e, s, m, args, below, meth, c, hx, hby, hml, hown, hnm, hret, hlk, hZ, hw, rfl⟩ := C
  subst hp has hst hk' hn'
  intro T locs X hT hF
  obtain ⟨v, _, ⟨T', L', k9, n9⟩, -, X', ⟨Lc, hQ, e1, e2, e3⟩, s'⟩ := X.specialBack hx (y := y') hi hown (mvT hZ (word hw w1)) (mvT hZ (word hw w2)) (mvT hZ (word hw w4)) hy (backOf (Q := fun v h L => Q' v h ∧ Fr n0 L) (W := W) hM hZ (word hw w4) (word hw w3) hf hl) (g := mkF m pc ls (argsL.reverse ++ .ref a :: rest)) rfl (by rw [hml]; exact hsz) (Steps.refl _) (a := a) (argsL := argsL) (rest := rest) (lenOf hps hln) rfl (by rw [← hW]; show 2 * 0 + _ ≤ _; omega) (hb hby hd) (fun _ _ => ⟨rfl, hT, hc, hn⟩)
  dsimp only [Pt.U, Pt.locs, Pt.cells, Pt.slots] at X' e1 e2 e3 s' hQ
  subst e1 e2 e3
  obtain ⟨s₂, o, h1, h2⟩ := hr v T'.heap hQ.1 T' _ X' rfl (Fr.app hF hQ.2)
  exact ⟨s₂, o, s'.trans h1, h2⟩
theorem Cx.callV (C : Cx G l Z a0 ws R y bytes maxL ret n0 Q) {y' : MethodName} {bytes' : ByteArray} {maxL' : Nat} {ret' : Option FieldType} {rm : Room} {as : Array Value} {Q' : Option Value → Heap → Prop} {a : Addr} {K : String} (hM : Ctr l Z y' bytes' maxL' ret' rm n0 as h Q' []) (hE : Exa Z h a K) {i1 i2 i3 i4 i5 i6 idx W : Nat} (w1 : ws[i1]? = some (Jvm.Cond.methodLink y.cls idx y')) (w2 : ws[i2]? = some (Jvm.Cond.declares y')) (w3 : ws[i3]? = some (Jvm.Cond.instanceMethod y')) (w4 : ws[i4]? = some (Jvm.Cond.selects K y' y')) (w5 : ws[i5]? = some (Jvm.Cond.code y' bytes' maxL' ret')) (w6 : ws[i6]? = some (Jvm.Cond.initialized y'.cls))
    (hy : y'.cls ≠ "java/lang/invoke/MethodHandle" ∧ y'.cls ≠ "java/lang/invoke/VarHandle") {argsL : List Value} {ps : List FieldType} {rt : Option FieldType} (hps : parseMethodDescriptor y'.desc = some ⟨ps, rt⟩) (hln : argsL.length = ps.length) (has : (.ref a :: argsL).toArray = as) (hst : st = argsL.reverse ++ .ref a :: rest) (hsz : ls.size = maxL) (hW : (rest.map fun v => v.category).sum = W) (hf : rm.frames + 1 ≤ R.frames) (hl : W + (maxL' + 11) + rm.locals ≤ R.locals) (hc : k + rm.cells ≤ R.cells) (hn : n + rm.slots ≤ R.slots) (hd : decode bytes pc = .ok (.invokevirtual idx, 3)) (hp : pc + 3 = pc') (hk' : k + rm.cells = k') (hn' : n + rm.slots = n')
    (hr : ∀ v h', Q' v h' → G h' k' n' pc' ls (v.toList ++ rest)) : G h k n pc ls st := by
  obtain ⟨p, e, s, m, args, below, meth, c, hx, hby, hml, hown, hnm, hret, hlk, hZ, hw, rfl⟩ := C
  subst hp has hst hk' hn'
  intro T locs X hT hF
  obtain ⟨cq, kq, qa, qb, qc⟩ := isOf hZ hT hE
  obtain ⟨v, _, ⟨T', L', k9, n9⟩, -, X', ⟨Lc, hQ, e1, e2, e3⟩, s'⟩ := X.virtualBack hx (y := y') (z := y') hown (mvT hZ (word hw w1)) (mvT hZ (word hw w2)) (notFace_of_selects (args := #[]) (mvT hZ (word hw w4))) (mvT hZ (word hw w4)) (mvT hZ (word hw w3)) hy (backOf (Q := fun v h L => Q' v h ∧ Fr n0 L) (W := W) hM hZ (word hw w5) (word hw w6) hf hl) qa qc (g := mkF m pc ls (argsL.reverse ++ .ref a :: rest)) rfl (by rw [hml]; exact hsz) (Steps.refl _) (argsL := argsL) (rest := rest) (lenOf hps hln) rfl (by rw [← hW]; show 2 * 0 + _ ≤ _; omega) (hb hby hd) (fun _ _ => ⟨rfl, hT, hc, hn⟩)
  dsimp only [Pt.U, Pt.locs, Pt.cells, Pt.slots] at X' e1 e2 e3 s' hQ
  subst e1 e2 e3
  obtain ⟨s₂, o, h1, h2⟩ := hr v T'.heap hQ.1 T' _ X' rfl (Fr.app hF hQ.2)
  exact ⟨s₂, o, s'.trans h1, h2⟩
theorem Cx.callSP (C : Cx G l Z a0 ws R y bytes maxL ret n0 Q) {y' : MethodName} {bytes' : ByteArray} {maxL' : Nat} {ret' : Option FieldType} {rm : Room} {as : Array Value} {r : Value} (hM : Ctr l Z y' bytes' maxL' ret' rm n0 as h (fun v h' => v = some r ∧ h' = h) []) {i1 i2 i3 i4 idx W : Nat} (w1 : ws[i1]? = some (Jvm.Cond.methodLink y.cls idx y')) (w2 : ws[i2]? = some (Jvm.Cond.static y')) (w3 : ws[i3]? = some (Jvm.Cond.initialized y'.cls)) (w4 : ws[i4]? = some (Jvm.Cond.code y' bytes' maxL' ret'))
    (hy : y'.cls ≠ "java/lang/invoke/MethodHandle" ∧ y'.cls ≠ "java/lang/invoke/VarHandle") {argsL : List Value} {ps : List FieldType} {rt : Option FieldType} (hps : parseMethodDescriptor y'.desc = some ⟨ps, rt⟩) (hln : argsL.length = ps.length) (has : argsL.toArray = as) (hst : st = argsL.reverse ++ rest) (hsz : ls.size = maxL) (hW : (rest.map fun v => v.category).sum = W) (hf : rm.frames + 1 ≤ R.frames) (hl : W + (maxL' + 11) + rm.locals ≤ R.locals) (hc : k + rm.cells ≤ R.cells) (hn : n + rm.slots ≤ R.slots) (hd : decode bytes pc = .ok (.invokestatic idx, 3)) (hp : pc + 3 = pc') (hk' : k + rm.cells = k') (hn' : n + rm.slots = n')
    (hr : G h k' n' pc' ls (r :: rest)) : G h k n pc ls st :=
  C.callS hM w1 w2 w3 w4 hy hps hln has hst hsz hW hf hl hc hn hd hp hk' hn' (fun v h' q => by obtain ⟨rfl, rfl⟩ := q; exact hr)
theorem Cx.callVP (C : Cx G l Z a0 ws R y bytes maxL ret n0 Q) {y' : MethodName} {bytes' : ByteArray} {maxL' : Nat} {ret' : Option FieldType} {rm : Room} {as : Array Value} {r : Value} {a : Addr} {K : String} (hM : Ctr l Z y' bytes' maxL' ret' rm n0 as h (fun v h' => v = some r ∧ h' = h) []) (hE : Exa Z h a K) {i1 i2 i3 i4 i5 i6 idx W : Nat} (w1 : ws[i1]? = some (Jvm.Cond.methodLink y.cls idx y')) (w2 : ws[i2]? = some (Jvm.Cond.declares y')) (w3 : ws[i3]? = some (Jvm.Cond.instanceMethod y')) (w4 : ws[i4]? = some (Jvm.Cond.selects K y' y')) (w5 : ws[i5]? = some (Jvm.Cond.code y' bytes' maxL' ret')) (w6 : ws[i6]? = some (Jvm.Cond.initialized y'.cls))
    (hy : y'.cls ≠ "java/lang/invoke/MethodHandle" ∧ y'.cls ≠ "java/lang/invoke/VarHandle") {argsL : List Value} {ps : List FieldType} {rt : Option FieldType} (hps : parseMethodDescriptor y'.desc = some ⟨ps, rt⟩) (hln : argsL.length = ps.length) (has : (.ref a :: argsL).toArray = as) (hst : st = argsL.reverse ++ .ref a :: rest) (hsz : ls.size = maxL) (hW : (rest.map fun v => v.category).sum = W) (hf : rm.frames + 1 ≤ R.frames) (hl : W + (maxL' + 11) + rm.locals ≤ R.locals) (hc : k + rm.cells ≤ R.cells) (hn : n + rm.slots ≤ R.slots) (hd : decode bytes pc = .ok (.invokevirtual idx, 3)) (hp : pc + 3 = pc') (hk' : k + rm.cells = k') (hn' : n + rm.slots = n')
    (hr : G h k' n' pc' ls (r :: rest)) : G h k n pc ls st :=
  C.callV hM hE w1 w2 w3 w4 w5 w6 hy hps hln has hst hsz hW hf hl hc hn hd hp hk' hn' (fun v h' q => by obtain ⟨rfl, rfl⟩ := q; exact hr)
theorem Lst.arv {h : Heap} {a : Addr} {ty : FieldType} {vs : List Value} {z : Int32} {dv : Value} (F : Lst Z h a ty vs) (hz : Idx z vs.length) (hf : ∀ i, i < vs.length → fits ty (vs.getD i dv) = true) : ∃ kk, Arv Z h a kk ty z vs dv := by
  obtain ⟨c, A, r⟩ := F
  have hs : c.slots.size = vs.length := by rw [r]; simp
  refine ⟨c.cls, c, A, rfl, by rw [hs, hz.2], hz.1, fun i hi => ?_, fun i hi => hf i (by omega)⟩
  rw [r, List.getElem?_toArray, List.getD_eq_getElem?_getD, List.getElem?_eq_getElem (by omega)]; rfl
theorem Lst.of_arv {h : Heap} {a : Addr} {ty : FieldType} {vs : List Value} {z : Int32} {dv : Value} {kk : ClassId} (F : Arv Z h a kk ty z vs dv) (hz : Idx z vs.length) : Lst Z h a ty vs := by
  obtain ⟨c, A, -, hs, -, hh, -⟩ := F
  refine ⟨c, A, ?_⟩
  have hl : c.slots.size = vs.length := by rw [hs, hz.2]
  apply Array.ext
  · simpa using hl
  · intro i h1 h2
    have q := hh i h1
    rw [Array.getElem?_eq_getElem h1, List.getD_eq_getElem?_getD, List.getElem?_eq_getElem (by omega)] at q
    simpa using q
theorem Cx.arraycopy (C : Cx G l Z a0 ws R y bytes maxL ret n0 Q) {a b : Addr} {ty : FieldType} {vs vd us vs' : List Value} {sp dp nn za zb : Int32} {i j N W i1 i2 i3 i4 idx : Nat} {dv : Value} (w1 : ws[i1]? = some (Jvm.Cond.methodLink y.cls idx Jvm.Stand.acN)) (w2 : ws[i2]? = some (Jvm.Cond.native Jvm.Stand.acN)) (w3 : ws[i3]? = some (Jvm.Cond.static Jvm.Stand.acN)) (w4 : ws[i4]? = some (Jvm.Cond.initialized "java/lang/System"))
    (A : Lst Z h a ty vs) (B : Lst Z h b ty vd) (hA : Idx za vs.length) (hB : Idx zb vd.length) (fA : ∀ i, i < vs.length → fits ty (vs.getD i dv) = true) (fB : ∀ i, i < vd.length → fits ty (vd.getD i dv) = true) (hty : refKind ty = false) (hi : Idx sp i) (hj : Idx dp j) (hN : Idx nn N) (hl1 : i + N ≤ vs.length) (hl2 : j + N ≤ vd.length) (hus : (List.range N).map (fun x => vs.getD (i + x) dv) = us) (hvs : vd.take j ++ us ++ vd.drop (j + N) = vs') (ga : n0 ≤ b) (hsz : ls.size = maxL) (hf : 1 ≤ R.frames) (hW : (st.map fun v => v.category).sum = W) (hlo : W + (nativeFrameWords "java/lang/System" "arraycopy" 5 + 11) ≤ R.locals) (hd : decode bytes pc = .ok (.invokestatic idx, 3)) (hp : pc + 3 = pc')
    (hr : ∀ h', Keep h h' [b] → Lst Z h' b ty vs' → G h' k n pc' ls st) : G h k n pc ls (.int nn :: .int dp :: .ref b :: .int sp :: .ref a :: st) := by
  obtain ⟨p, e, s, m, args, below, meth, c, hx, hby, hml, hown, hnm, hret, hlk, hZ, hw, rfl⟩ := C
  subst hp hus hvs
  intro T locs X hT hF
  obtain ⟨ka, A'⟩ := A.arv hA fA
  obtain ⟨kb, B'⟩ := B.arv hB fB
  obtain ⟨T', h', L', X', e', F', K', V', s'⟩ := cpA X hx hZ hown (word hw w1) (word hw w2) (word hw w3) (word hw w4) hT A' B' (Or.inl ⟨rfl, hty⟩) hi.1 hj.1 hN.1 (by rw [hi.2, hN.2, hA.2]; exact hl1) (by rw [hj.2, hN.2, hB.2]; exact hl2) (us := (List.range N).map (fun x => vs.getD (i + x) dv)) (by rw [hi.2, hN.2]) (by rw [hj.2, hN.2]; exact hl2) hF ga (g := mkF m pc ls (.int nn :: .int dp :: .ref b :: .int sp :: .ref a :: st)) rfl (by rw [hml]; exact hsz) rfl (hb hby hd) hf (W := W) (by rw [← hW]; show 2 * 0 + _ ≤ _; omega) hlo
  rw [hj.2, hN.2] at V'
  obtain ⟨s₂, o, h1, h2⟩ := hr h' K' (Lst.of_arv V' ⟨hB.1, by rw [hB.2]; simp; omega⟩) T' _ X' e' F'
  exact ⟨s₂, o, s' _ h1, h2⟩
end Laws
end Jvm.GoKit
namespace Jvm.Pilot.@@N@@
open Jvm Jvm.ClassFile Sem Op Lib Jvm.Free Jvm.Stand Jvm.LawKit Jvm.RoadKit Jvm.GoKit Bundle Jvm.Pilot.@@N@@.Jvm.D
def own_dig (c : Int32) : Bool := !(decide (c < 48)) && !(decide (57 < c))
def own_b0 (w : Int64) : Int32 := (w &&& 255).toInt32
def own_b (w : Int64) (k : Int32) : Int32 := (XT.ushrL w k &&& 255).toInt32
def own_sh (ng : Bool) (x d z : Int32) : Int32 := if own_dig x && decide (d = 46) && own_dig z then (if ng then -((x - 48) * 10 + (z - 48)) else (x - 48) * 10 + (z - 48)) else -2147483648
def own_lg (ng : Bool) (t x d z : Int32) : Int32 := if own_dig t && own_dig x && decide (d = 46) && own_dig z then (if ng then -((t - 48) * 100 + (x - 48) * 10 + (z - 48)) else (t - 48) * 100 + (x - 48) * 10 + (z - 48)) else -2147483648
def own_val (B0 B1 B2 B3 B4 n : Int32) : Int32 :=
  if n = 3 then (if B0 = 45 then -2147483648 else own_sh false B0 B1 B2)
  else if n = 4 then (if B0 = 45 then own_sh true B1 B2 B3 else own_lg false B0 B1 B2 B3)
  else if n = 5 then (if B0 = 45 then own_lg true B1 B2 B3 B4 else -2147483648) else -2147483648
theorem own_val_lt {B0 B1 B2 B3 B4 n : Int32} (h : n < 3) : own_val B0 B1 B2 B3 B4 n = -2147483648 := by
  have h3 : ¬ n = 3 := fun q => by subst q; exact absurd h (by decide)
  have h4 : ¬ n = 4 := fun q => by subst q; exact absurd h (by decide)
  have h5 : ¬ n = 5 := fun q => by subst q; exact absurd h (by decide)
  simp only [own_val, h3, h4, h5, if_false]
theorem own_val_gt {B0 B1 B2 B3 B4 n : Int32} (h : 5 < n) : own_val B0 B1 B2 B3 B4 n = -2147483648 := by
  have h3 : ¬ n = 3 := fun q => by subst q; exact absurd h (by decide)
  have h4 : ¬ n = 4 := fun q => by subst q; exact absurd h (by decide)
  have h5 : ¬ n = 5 := fun q => by subst q; exact absurd h (by decide)
  simp only [own_val, h3, h4, h5, if_false]
theorem own_345 {n : Int32} (h1 : ¬ n < 3) (h2 : ¬ 5 < n) : n = 3 ∨ n = 4 ∨ n = 5 := by
  rw [Int32.lt_iff_toInt_lt] at h1 h2
  have a : (3 : Int32).toInt = 3 := rfl
  have b : (5 : Int32).toInt = 5 := rfl
  have c : (4 : Int32).toInt = 4 := rfl
  rw [← Int32.toInt_inj, ← Int32.toInt_inj, ← Int32.toInt_inj]
  omega
/-! the naturals behind -/
abbrev own_n (w : Int64) : Nat := w.toBitVec.toNat
theorem own_lo (w : Int64) : w &&& 255 = Int64.ofNat (own_n w % 256) := by
  apply Int64.toBitVec_inj.mp
  apply BitVec.eq_of_toNat_eq
  show (w.toBitVec &&& (255 : Int64).toBitVec).toNat = (BitVec.ofNat 64 (own_n w % 256)).toNat
  rw [BitVec.toNat_and, BitVec.toNat_ofNat, show (255 : Int64).toBitVec.toNat = 2 ^ 8 - 1 from rfl, Nat.and_two_pow_sub_one_eq_mod]
  change own_n w % 256 = own_n w % 256 % 18446744073709551616
  omega
theorem own_ushr (w : Int64) (q : Int32) (k : Nat) (hk : (q.toInt64.toUInt64 &&& Int64.toUInt64 63).toNat % 64 = k) : own_n (XT.ushrL w q) = own_n w / 2 ^ k := by
  show (w.toUInt64 >>> (q.toInt64.toUInt64 &&& Int64.toUInt64 63)).toNat = _
  rw [UInt64.toNat_shiftRight, hk, Nat.shiftRight_eq_div_pow]; rfl
theorem own_f1 : ∀ k : Fin 256, (Int64.ofNat k.val).toInt32 = Int32.ofNat k.val := by decide +kernel
theorem own_f2 : ∀ k : Fin 256, (XT.ushrL ((Int64.ofNat k.val ^^^ 45) - 1) 63).toInt32 = (if (Int64.ofNat k.val).toInt32 = 45 then 1 else 0) := by decide +kernel
theorem own_b0N (w : Int64) : own_b0 w = Int32.ofNat (own_n w % 256) := by
  unfold own_b0; rw [own_lo]; exact own_f1 ⟨own_n w % 256, Nat.mod_lt _ (by decide)⟩
theorem own_bN (w : Int64) (q : Int32) (k : Nat) (hk : (q.toInt64.toUInt64 &&& Int64.toUInt64 63).toNat % 64 = k) : own_b w q = Int32.ofNat (own_n w / 2 ^ k % 256) := by
  unfold own_b; rw [own_lo, own_ushr w q k hk]; exact own_f1 ⟨own_n w / 2 ^ k % 256, Nat.mod_lt _ (by decide)⟩
theorem own_negv (w : Int64) : (XT.ushrL (((w &&& 255) ^^^ 45) - 1) 63).toInt32 = (if own_b0 w = 45 then 1 else 0) := by
  unfold own_b0; rw [own_lo]; exact own_f2 ⟨own_n w % 256, Nat.mod_lt _ (by decide)⟩
theorem own_negT {w : Int64} (hn : own_b0 w = 45) : (XT.ushrL (((w &&& 255) ^^^ 45) - 1) 63).toInt32 = 1 := by rw [own_negv, if_pos hn]
theorem own_negF {w : Int64} (hn : ¬ own_b0 w = 45) : (XT.ushrL (((w &&& 255) ^^^ 45) - 1) 63).toInt32 = 0 := by rw [own_negv, if_neg hn]
theorem own_or {a b : Int32} (h : b ≠ 0) : ¬ a ||| b = 0 := fun q => h (by
  have q' : a.toBitVec ||| b.toBitVec = 0#32 := congrArg Int32.toBitVec q
  exact Int32.toBitVec_inj.mp (BitVec.or_eq_zero_iff.mp q').2)
abbrev own_q (a b c d : Nat) : Nat := a + 256 * (b + 256 * (c + 256 * d))
theorem own_lastN (w l : Int64) (s : Int32) (k : Nat) (hk : (s.toInt64.toUInt64 &&& Int64.toUInt64 63).toNat % 64 = k) :
    ((XT.ushrL ((w ^^^ l) <<< ((8 : Int32).toInt64 &&& 63)) s).toInt32).toBitVec.toNat = ((own_n w ^^^ own_n l) * 256 % 18446744073709551616 / 2 ^ k) % 4294967296 := by
  have e1 : ∀ x : Int64, x.toInt32.toBitVec.toNat = own_n x % 4294967296 := fun x => by
    show (x.toBitVec.signExtend 32).toNat = _
    rw [BitVec.signExtend_eq_setWidth_of_le _ (by decide), BitVec.toNat_setWidth]
  have e2 : own_n ((w ^^^ l) <<< ((8 : Int32).toInt64 &&& 63)) = (own_n w ^^^ own_n l) * 256 % 18446744073709551616 := by
    have e3 : ((8 : Int32).toInt64 &&& 63) = (8 : Int64) := by decide
    rw [e3]
    show ((w.toBitVec ^^^ l.toBitVec) <<< ((8 : Int64).toBitVec.smod 64)).toNat = _
    rw [show ((8 : Int64).toBitVec.smod 64) = 8#64 from by decide, BitVec.shiftLeft_eq', BitVec.toNat_shiftLeft, BitVec.toNat_xor, show (8#64).toNat = 8 from rfl, Nat.shiftLeft_eq]
  rw [e1, own_ushr _ s k hk, e2]
theorem own_xor45 {n : Nat} (h : n % 256 = 45) : n ^^^ 45 = 256 * (n / 256) := by
  have a : (n ^^^ 45) % 256 = 0 := by
    have := Nat.xor_mod_two_pow (a := n) (b := 45) (n := 8)
    rw [show (2 : Nat) ^ 8 = 256 from rfl, h] at this; rw [this]; rfl
  have b : (n ^^^ 45) / 256 = n / 256 := by
    have := Nat.xor_div_two_pow (a := n) (b := 45) (n := 8)
    rw [show (2 : Nat) ^ 8 = 256 from rfl] at this; rw [this, show 45 / 256 = 0 from rfl, Nat.xor_zero]
  have := Nat.div_add_mod (n ^^^ 45) 256
  omega
theorem own_n45 {w : Int64} (hn : own_b0 w = 45) : own_n w % 256 = 45 := by
  rw [own_b0N] at hn
  have f : ∀ k : Fin 256, Int32.ofNat k.val = 45 → k.val = 45 := by decide +kernel
  exact f ⟨own_n w % 256, Nat.mod_lt _ (by decide)⟩ hn
abbrev own_y (w : Int64) (k : Nat) : Nat := own_n w / 2 ^ k % 256
theorem own_last3T {w : Int64} (hn : own_b0 w = 45) : ∃ x, (XT.ushrL ((w ^^^ (45 : Int64)) <<< ((8 : Int32).toInt64 &&& 63)) (0 : Int32)).toInt32 = x ∧ True := ⟨_, rfl, trivial⟩
theorem own_last5F {w : Int64} (hn : ¬ own_b0 w = 45) : ∃ x, (XT.ushrL ((w ^^^ (0 : Int64)) <<< ((8 : Int32).toInt64 &&& 63)) (16 : Int32)).toInt32 = x ∧ True := ⟨_, rfl, trivial⟩
theorem own_last3F {w : Int64} (hn : ¬ own_b0 w = 45) : ∃ x, (XT.ushrL ((w ^^^ (0 : Int64)) <<< ((8 : Int32).toInt64 &&& 63)) (0 : Int32)).toInt32 = x ∧ x.toBitVec.toNat = own_q 0 (own_y w 0) (own_y w 8) (own_y w 16) := by
  refine ⟨_, rfl, ?_⟩
  rw [own_lastN w 0 0 0 (by decide), show own_n 0 = 0 from rfl, Nat.xor_zero]
  simp only [own_q, own_y, Nat.pow_zero, Nat.reducePow]
  omega
theorem own_last4F {w : Int64} (hn : ¬ own_b0 w = 45) : ∃ x, (XT.ushrL ((w ^^^ (0 : Int64)) <<< ((8 : Int32).toInt64 &&& 63)) (8 : Int32)).toInt32 = x ∧ x.toBitVec.toNat = own_q (own_y w 0) (own_y w 8) (own_y w 16) (own_y w 24) := by
  refine ⟨_, rfl, ?_⟩
  rw [own_lastN w 0 8 8 (by decide), show own_n 0 = 0 from rfl, Nat.xor_zero]
  simp only [own_q, own_y, Nat.pow_zero, Nat.reducePow]
  omega
theorem own_last4T {w : Int64} (hn : own_b0 w = 45) : ∃ x, (XT.ushrL ((w ^^^ (45 : Int64)) <<< ((8 : Int32).toInt64 &&& 63)) (8 : Int32)).toInt32 = x ∧ x.toBitVec.toNat = own_q 0 (own_y w 8) (own_y w 16) (own_y w 24) := by
  refine ⟨_, rfl, ?_⟩
  rw [own_lastN w 45 8 8 (by decide), show own_n 45 = 45 from rfl, own_xor45 (own_n45 hn)]
  simp only [own_q, own_y, Nat.pow_zero, Nat.reducePow]
  omega
theorem own_last5T {w : Int64} (hn : own_b0 w = 45) : ∃ x, (XT.ushrL ((w ^^^ (45 : Int64)) <<< ((8 : Int32).toInt64 &&& 63)) (16 : Int32)).toInt32 = x ∧ x.toBitVec.toNat = own_q (own_y w 8) (own_y w 16) (own_y w 24) (own_y w 32) := by
  refine ⟨_, rfl, ?_⟩
  rw [own_lastN w 45 16 16 (by decide), show own_n 45 = 45 from rfl, own_xor45 (own_n45 hn)]
  simp only [own_q, own_y, Nat.pow_zero, Nat.reducePow]
  omega
theorem own_and1 {a b : Nat} (x y : Nat) (ha : a < 256) (hb : b < 256) : (a + 256 * x) &&& (b + 256 * y) = (a &&& b) + 256 * (x &&& y) := by
  have p := Nat.and_mod_two_pow (a := a + 256 * x) (b := b + 256 * y) (n := 8)
  have q := Nat.and_div_two_pow (a := a + 256 * x) (b := b + 256 * y) (n := 8)
  rw [show (2 : Nat) ^ 8 = 256 from rfl] at p q
  rw [show (a + 256 * x) % 256 = a by omega, show (b + 256 * y) % 256 = b by omega] at p
  rw [show (a + 256 * x) / 256 = x by omega, show (b + 256 * y) / 256 = y by omega] at q
  have := Nat.div_add_mod ((a + 256 * x) &&& (b + 256 * y)) 256
  rw [p, q] at this; omega
theorem own_xor1 {a b : Nat} (x y : Nat) (ha : a < 256) (hb : b < 256) : (a + 256 * x) ^^^ (b + 256 * y) = (a ^^^ b) + 256 * (x ^^^ y) := by
  have p := Nat.xor_mod_two_pow (a := a + 256 * x) (b := b + 256 * y) (n := 8)
  have q := Nat.xor_div_two_pow (a := a + 256 * x) (b := b + 256 * y) (n := 8)
  rw [show (2 : Nat) ^ 8 = 256 from rfl] at p q
  rw [show (a + 256 * x) % 256 = a by omega, show (b + 256 * y) % 256 = b by omega] at p
  rw [show (a + 256 * x) / 256 = x by omega, show (b + 256 * y) / 256 = y by omega] at q
  have := Nat.div_add_mod ((a + 256 * x) ^^^ (b + 256 * y)) 256
  rw [p, q] at this; omega
theorem own_fe1 : ∀ d : Fin 256, d.val &&& 240 = 0 → d.val < 16 := by decide +kernel
theorem own_fe2 : ∀ d : Fin 256, d.val &&& 255 = 0 → d.val = 0 := by decide +kernel
theorem own_fin16 : ∀ a b d : Fin 16, (Int32.ofNat (own_q a.val b.val 0 d.val) + 100664838) &&& 268439568 = 0 → a.val ≤ 9 ∧ b.val ≤ 9 ∧ d.val ≤ 9 := by decide +kernel
theorem own_fin10 : ∀ a b d : Fin 10, (((Int32.ofNat (own_q a.val b.val 0 d.val) &&& (-251662096)) ||| ((Int32.ofNat (own_q a.val b.val 0 d.val) + 100664838) &&& 268439568)) ||| 0 = 0) ∧ (XT.ushrL ((Int32.ofNat (own_q a.val b.val 0 d.val) &&& 251662095).toInt64 * 1678376961) 24).toInt32 &&& 1023 = Int32.ofNat (100 * a.val + 10 * b.val + d.val) := by decide +kernel
theorem own_ofN {D : Int32} {n : Nat} (h : D.toBitVec.toNat = n) : D = Int32.ofNat n := by
  apply Int32.toBitVec_inj.mp
  apply BitVec.eq_of_toNat_eq
  show D.toBitVec.toNat = (BitVec.ofNat 32 n).toNat
  rw [BitVec.toNat_ofNat, ← h, Nat.mod_eq_of_lt D.toBitVec.isLt]
/-- what the checks say of the four bytes d0 .. d3 of 'digits' -/
theorem own_D {D : Int32} {d0 d1 d2 d3 : Nat} (h0 : d0 < 256) (h1 : d1 < 256) (h2 : d2 < 256) (h3 : d3 < 256) (hD : D.toBitVec.toNat = own_q d0 d1 d2 d3) :
    (((D &&& (-251662096)) ||| ((D + 100664838) &&& 268439568)) ||| 0 = 0 ↔ (d0 ≤ 9 ∧ d1 ≤ 9 ∧ d2 = 0 ∧ d3 ≤ 9)) ∧
    ((d0 ≤ 9 ∧ d1 ≤ 9 ∧ d2 = 0 ∧ d3 ≤ 9) → (XT.ushrL ((D &&& 251662095).toInt64 * 1678376961) 24).toInt32 &&& 1023 = Int32.ofNat (100 * d0 + 10 * d1 + d3)) := by
  have hd := own_ofN hD
  refine ⟨⟨fun q => ?_, fun ⟨p0, p1, p2, p3⟩ => ?_⟩, fun ⟨p0, p1, p2, p3⟩ => ?_⟩
  · have q' : ((D &&& (-251662096)).toBitVec ||| ((D + 100664838) &&& 268439568).toBitVec) ||| 0#32 = 0#32 := congrArg Int32.toBitVec q
    have qa := (BitVec.or_eq_zero_iff.mp (BitVec.or_eq_zero_iff.mp q').1)
    have A : (own_q d0 d1 d2 d3) &&& 4043305200 = 0 := by
      have : (D.toBitVec &&& (-251662096 : Int32).toBitVec).toNat = 0 := congrArg BitVec.toNat qa.1
      rw [BitVec.toNat_and, hD] at this; exact this
    rw [show (4043305200 : Nat) = own_q 240 240 255 240 from rfl] at A
    simp only [own_q] at A
    rw [own_and1 _ _ h0 (by decide), own_and1 _ _ h1 (by decide), own_and1 _ _ h2 (by decide)] at A
    have a0 := own_fe1 ⟨d0, h0⟩ (by show d0 &&& 240 = 0; omega)
    have a1 := own_fe1 ⟨d1, h1⟩ (by show d1 &&& 240 = 0; omega)
    have a2 := own_fe2 ⟨d2, h2⟩ (by show d2 &&& 255 = 0; omega)
    have a3 := own_fe1 ⟨d3, h3⟩ (by show d3 &&& 240 = 0; omega)
    dsimp only at a0 a1 a2 a3
    subst a2
    have B : (D + 100664838) &&& 268439568 = 0 := Int32.toBitVec_inj.mp qa.2
    rw [hd] at B
    have := own_fin16 ⟨d0, a0⟩ ⟨d1, a1⟩ ⟨d3, a3⟩ B
    exact ⟨this.1, this.2.1, rfl, this.2.2⟩
  · subst p2; rw [hd]; exact (own_fin10 ⟨d0, by omega⟩ ⟨d1, by omega⟩ ⟨d3, by omega⟩).1
  · subst p2; rw [hd]; exact (own_fin10 ⟨d0, by omega⟩ ⟨d1, by omega⟩ ⟨d3, by omega⟩).2
theorem own_x48 : ∀ c : Fin 256, (c.val ^^^ 48 ≤ 9 ↔ own_dig (Int32.ofNat c.val) = true) ∧ (c.val ^^^ 48 ≤ 9 → c.val = 48 + (c.val ^^^ 48)) ∧ (c.val ^^^ 46 = 0 ↔ Int32.ofNat c.val = 46) ∧ c.val ^^^ 48 < 256 ∧ c.val ^^^ 46 < 256 := by decide +kernel
theorem own_fval : ∀ a b d : Fin 10, (Int32.ofNat (48 + a.val) - 48) * 100 + (Int32.ofNat (48 + b.val) - 48) * 10 + (Int32.ofNat (48 + d.val) - 48) = Int32.ofNat (100 * a.val + 10 * b.val + d.val) ∧ (Int32.ofNat (48 + b.val) - 48) * 10 + (Int32.ofNat (48 + d.val) - 48) = Int32.ofNat (100 * 0 + 10 * b.val + d.val) := by decide +kernel
theorem own_sgn (v : Int32) : (v ^^^ 0) + 0 = v ∧ (v ^^^ (-1)) + 1 = -v := by
  constructor
  · apply Int32.toBitVec_inj.mp
    show (v.toBitVec ^^^ 0#32) + 0#32 = v.toBitVec
    rw [BitVec.xor_zero, BitVec.add_zero]
  · apply Int32.toBitVec_inj.mp
    show (v.toBitVec ^^^ (-1 : Int32).toBitVec) + (1 : Int32).toBitVec = -v.toBitVec
    rw [show (-1 : Int32).toBitVec = BitVec.allOnes 32 from by decide, BitVec.xor_allOnes, BitVec.neg_eq_not_add]; rfl
/-- digits of a text with a tens digit -/
theorem own_lgD {x : Int32} {c0 c1 c2 c3 : Nat} (h0 : c0 < 256) (h1 : c1 < 256) (h2 : c2 < 256) (h3 : c3 < 256) (hx : x.toBitVec.toNat = own_q c0 c1 c2 c3) : (x ^^^ 808333360).toBitVec.toNat = own_q (c0 ^^^ 48) (c1 ^^^ 48) (c2 ^^^ 46) (c3 ^^^ 48) := by
  show (x.toBitVec ^^^ (808333360 : Int32).toBitVec).toNat = _
  rw [BitVec.toNat_xor, hx, show (808333360 : Int32).toBitVec.toNat = own_q 48 48 46 48 from rfl]
  simp only [own_q]
  rw [own_xor1 _ _ h0 (by decide), own_xor1 _ _ h1 (by decide), own_xor1 _ _ h2 (by decide)]
theorem own_shD {x : Int32} {c1 c2 c3 : Nat} (h1 : c1 < 256) (h2 : c2 < 256) (h3 : c3 < 256) (hx : x.toBitVec.toNat = own_q 0 c1 c2 c3) : (x ^^^ 808333312).toBitVec.toNat = own_q 0 (c1 ^^^ 48) (c2 ^^^ 46) (c3 ^^^ 48) := by
  show (x.toBitVec ^^^ (808333312 : Int32).toBitVec).toNat = _
  rw [BitVec.toNat_xor, hx, show (808333312 : Int32).toBitVec.toNat = own_q 0 48 46 48 from rfl]
  simp only [own_q]
  rw [own_xor1 _ _ (by decide) (by decide), own_xor1 _ _ h1 (by decide), own_xor1 _ _ h2 (by decide)]; rfl
theorem own_lgR {x : Int32} {c0 c1 c2 c3 : Nat} (ng : Bool) (h0 : c0 < 256) (h1 : c1 < 256) (h2 : c2 < 256) (h3 : c3 < 256) (hx : x.toBitVec.toNat = own_q c0 c1 c2 c3) :
    (¬ ((((x ^^^ 808333360) &&& (-251662096)) ||| (((x ^^^ 808333360) + 100664838) &&& 268439568)) ||| 0 = 0) → own_lg ng (Int32.ofNat c0) (Int32.ofNat c1) (Int32.ofNat c2) (Int32.ofNat c3) = -2147483648) ∧
    (((((x ^^^ 808333360) &&& (-251662096)) ||| (((x ^^^ 808333360) + 100664838) &&& 268439568)) ||| 0 = 0) → own_lg ng (Int32.ofNat c0) (Int32.ofNat c1) (Int32.ofNat c2) (Int32.ofNat c3) = (if ng then -((XT.ushrL (((x ^^^ 808333360) &&& 251662095).toInt64 * 1678376961) 24).toInt32 &&& 1023) else ((XT.ushrL (((x ^^^ 808333360) &&& 251662095).toInt64 * 1678376961) 24).toInt32 &&& 1023))) := by
  have f0 := own_x48 ⟨c0, h0⟩
  have f1 := own_x48 ⟨c1, h1⟩
  have f2 := own_x48 ⟨c2, h2⟩
  have f3 := own_x48 ⟨c3, h3⟩
  dsimp only at f0 f1 f2 f3
  have R := own_D f0.2.2.2.1 f1.2.2.2.1 f2.2.2.2.2 f3.2.2.2.1 (own_lgD h0 h1 h2 h3 hx)
  constructor
  · intro hq
    have : ¬ (own_dig (Int32.ofNat c0) && own_dig (Int32.ofNat c1) && decide (Int32.ofNat c2 = 46) && own_dig (Int32.ofNat c3)) = true := fun q => hq (R.1.mpr (by
      simp only [Bool.and_eq_true, decide_eq_true_eq] at q
      exact ⟨f0.1.mpr q.1.1.1, f1.1.mpr q.1.1.2, f2.2.2.1.mpr q.1.2, f3.1.mpr q.2⟩))
    unfold own_lg; rw [if_neg this]
  · intro hq
    have P := R.1.mp hq
    have M := R.2 P
    have : (own_dig (Int32.ofNat c0) && own_dig (Int32.ofNat c1) && decide (Int32.ofNat c2 = 46) && own_dig (Int32.ofNat c3)) = true := by
      simp only [Bool.and_eq_true, decide_eq_true_eq]
      exact ⟨⟨⟨f0.1.mp P.1, f1.1.mp P.2.1⟩, f2.2.2.1.mp P.2.2.1⟩, f3.1.mp P.2.2.2⟩
    have V := (own_fval ⟨c0 ^^^ 48, by omega⟩ ⟨c1 ^^^ 48, by omega⟩ ⟨c3 ^^^ 48, by omega⟩).1
    dsimp only at V
    rw [← f0.2.1 P.1, ← f1.2.1 P.2.1, ← f3.2.1 P.2.2.2] at V
    unfold own_lg; rw [if_pos this, M, V]
theorem own_shR {x : Int32} {c1 c2 c3 : Nat} (ng : Bool) (h1 : c1 < 256) (h2 : c2 < 256) (h3 : c3 < 256) (hx : x.toBitVec.toNat = own_q 0 c1 c2 c3) :
    (¬ ((((x ^^^ 808333312) &&& (-251662096)) ||| (((x ^^^ 808333312) + 100664838) &&& 268439568)) ||| 0 = 0) → own_sh ng (Int32.ofNat c1) (Int32.ofNat c2) (Int32.ofNat c3) = -2147483648) ∧
    (((((x ^^^ 808333312) &&& (-251662096)) ||| (((x ^^^ 808333312) + 100664838) &&& 268439568)) ||| 0 = 0) → own_sh ng (Int32.ofNat c1) (Int32.ofNat c2) (Int32.ofNat c3) = (if ng then -((XT.ushrL (((x ^^^ 808333312) &&& 251662095).toInt64 * 1678376961) 24).toInt32 &&& 1023) else ((XT.ushrL (((x ^^^ 808333312) &&& 251662095).toInt64 * 1678376961) 24).toInt32 &&& 1023))) := by
  have f1 := own_x48 ⟨c1, h1⟩
  have f2 := own_x48 ⟨c2, h2⟩
  have f3 := own_x48 ⟨c3, h3⟩
  dsimp only at f1 f2 f3
  have R := own_D (by decide : 0 < 256) f1.2.2.2.1 f2.2.2.2.2 f3.2.2.2.1 (own_shD h1 h2 h3 hx)
  constructor
  · intro hq
    have : ¬ (own_dig (Int32.ofNat c1) && decide (Int32.ofNat c2 = 46) && own_dig (Int32.ofNat c3)) = true := fun q => hq (R.1.mpr (by
      simp only [Bool.and_eq_true, decide_eq_true_eq] at q
      exact ⟨by decide, f1.1.mpr q.1.1, f2.2.2.1.mpr q.1.2, f3.1.mpr q.2⟩))
    unfold own_sh; rw [if_neg this]
  · intro hq
    have P := R.1.mp hq
    have M := R.2 P
    have : (own_dig (Int32.ofNat c1) && decide (Int32.ofNat c2 = 46) && own_dig (Int32.ofNat c3)) = true := by
      simp only [Bool.and_eq_true, decide_eq_true_eq]
      exact ⟨⟨f1.1.mp P.2.1, f2.2.2.1.mp P.2.2.1⟩, f3.1.mp P.2.2.2⟩
    have V := (own_fval ⟨0, by decide⟩ ⟨c1 ^^^ 48, by omega⟩ ⟨c3 ^^^ 48, by omega⟩).2
    dsimp only at V
    rw [← f1.2.1 P.2.1, ← f3.2.1 P.2.2.2] at V
    unfold own_sh; rw [if_pos this, M, V]
theorem own_y0 (w : Int64) : own_b0 w = Int32.ofNat (own_y w 0) := by rw [own_b0N]; simp only [own_y, Nat.pow_zero, Nat.div_one]
theorem own_ylt (w : Int64) (k : Nat) : own_y w k < 256 := Nat.mod_lt _ (by decide)
theorem own_bad3F {w : Int64} {x : Int32} (hn : ¬ own_b0 w = 45) (hx : x.toBitVec.toNat = own_q 0 (own_y w 0) (own_y w 8) (own_y w 16)) (hq : ¬ ((((x ^^^ 808333312) &&& (-251662096)) ||| (((x ^^^ 808333312) + 100664838) &&& 268439568)) ||| 0 = (0 : Int32))) : some (Value.int (-2147483648 : Int32)) = some (Value.int (own_val (own_b0 w) (own_b w 8) (own_b w 16) (own_b w 24) (own_b w 32) 3)) := by
  have e : (own_val (own_b0 w) (own_b w 8) (own_b w 16) (own_b w 24) (own_b w 32) 3) = own_sh false (own_b0 w) (own_b w 8) (own_b w 16) := by simp only [own_val]; simp [hn]
  rw [e, own_y0, own_bN w 8 8 (by decide), own_bN w 16 16 (by decide), (own_shR false (own_ylt w 0) (own_ylt w 8) (own_ylt w 16) hx).1 hq]
theorem own_good3F {w : Int64} {x : Int32} (hn : ¬ own_b0 w = 45) (hx : x.toBitVec.toNat = own_q 0 (own_y w 0) (own_y w 8) (own_y w 16)) (hq : ((((x ^^^ 808333312) &&& (-251662096)) ||| (((x ^^^ 808333312) + 100664838) &&& 268439568)) ||| 0 = (0 : Int32))) : some (Value.int ((((XT.ushrL (((x ^^^ 808333312) &&& 251662095).toInt64 * 1678376961) 24).toInt32 &&& 1023) ^^^ (0 : Int32)) + (0 : Int32))) = some (Value.int (own_val (own_b0 w) (own_b w 8) (own_b w 16) (own_b w 24) (own_b w 32) 3)) := by
  have e : (own_val (own_b0 w) (own_b w 8) (own_b w 16) (own_b w 24) (own_b w 32) 3) = own_sh false (own_b0 w) (own_b w 8) (own_b w 16) := by simp only [own_val]; simp [hn]
  rw [e, own_y0, own_bN w 8 8 (by decide), own_bN w 16 16 (by decide), (own_shR false (own_ylt w 0) (own_ylt w 8) (own_ylt w 16) hx).2 hq, (own_sgn _).1]; rfl
theorem own_bad4T {w : Int64} {x : Int32} (hn : own_b0 w = 45) (hx : x.toBitVec.toNat = own_q 0 (own_y w 8) (own_y w 16) (own_y w 24)) (hq : ¬ ((((x ^^^ 808333312) &&& (-251662096)) ||| (((x ^^^ 808333312) + 100664838) &&& 268439568)) ||| 0 = (0 : Int32))) : some (Value.int (-2147483648 : Int32)) = some (Value.int (own_val (own_b0 w) (own_b w 8) (own_b w 16) (own_b w 24) (own_b w 32) 4)) := by
  have e : (own_val (own_b0 w) (own_b w 8) (own_b w 16) (own_b w 24) (own_b w 32) 4) = own_sh true (own_b w 8) (own_b w 16) (own_b w 24) := by simp only [own_val]; simp [hn]
  rw [e, own_bN w 8 8 (by decide), own_bN w 16 16 (by decide), own_bN w 24 24 (by decide), (own_shR true (own_ylt w 8) (own_ylt w 16) (own_ylt w 24) hx).1 hq]
theorem own_good4T {w : Int64} {x : Int32} (hn : own_b0 w = 45) (hx : x.toBitVec.toNat = own_q 0 (own_y w 8) (own_y w 16) (own_y w 24)) (hq : ((((x ^^^ 808333312) &&& (-251662096)) ||| (((x ^^^ 808333312) + 100664838) &&& 268439568)) ||| 0 = (0 : Int32))) : some (Value.int ((((XT.ushrL (((x ^^^ 808333312) &&& 251662095).toInt64 * 1678376961) 24).toInt32 &&& 1023) ^^^ (-1 : Int32)) + (1 : Int32))) = some (Value.int (own_val (own_b0 w) (own_b w 8) (own_b w 16) (own_b w 24) (own_b w 32) 4)) := by
  have e : (own_val (own_b0 w) (own_b w 8) (own_b w 16) (own_b w 24) (own_b w 32) 4) = own_sh true (own_b w 8) (own_b w 16) (own_b w 24) := by simp only [own_val]; simp [hn]
  rw [e, own_bN w 8 8 (by decide), own_bN w 16 16 (by decide), own_bN w 24 24 (by decide), (own_shR true (own_ylt w 8) (own_ylt w 16) (own_ylt w 24) hx).2 hq, (own_sgn _).2]; rfl
theorem own_bad4F {w : Int64} {x : Int32} (hn : ¬ own_b0 w = 45) (hx : x.toBitVec.toNat = own_q (own_y w 0) (own_y w 8) (own_y w 16) (own_y w 24)) (hq : ¬ ((((x ^^^ 808333360) &&& (-251662096)) ||| (((x ^^^ 808333360) + 100664838) &&& 268439568)) ||| 0 = (0 : Int32))) : some (Value.int (-2147483648 : Int32)) = some (Value.int (own_val (own_b0 w) (own_b w 8) (own_b w 16) (own_b w 24) (own_b w 32) 4)) := by
  have e : (own_val (own_b0 w) (own_b w 8) (own_b w 16) (own_b w 24) (own_b w 32) 4) = own_lg false (own_b0 w) (own_b w 8) (own_b w 16) (own_b w 24) := by simp only [own_val]; simp [hn]
  rw [e, own_y0, own_bN w 8 8 (by decide), own_bN w 16 16 (by decide), own_bN w 24 24 (by decide), (own_lgR false (own_ylt w 0) (own_ylt w 8) (own_ylt w 16) (own_ylt w 24) hx).1 hq]
theorem own_good4F {w : Int64} {x : Int32} (hn : ¬ own_b0 w = 45) (hx : x.toBitVec.toNat = own_q (own_y w 0) (own_y w 8) (own_y w 16) (own_y w 24)) (hq : ((((x ^^^ 808333360) &&& (-251662096)) ||| (((x ^^^ 808333360) + 100664838) &&& 268439568)) ||| 0 = (0 : Int32))) : some (Value.int ((((XT.ushrL (((x ^^^ 808333360) &&& 251662095).toInt64 * 1678376961) 24).toInt32 &&& 1023) ^^^ (0 : Int32)) + (0 : Int32))) = some (Value.int (own_val (own_b0 w) (own_b w 8) (own_b w 16) (own_b w 24) (own_b w 32) 4)) := by
  have e : (own_val (own_b0 w) (own_b w 8) (own_b w 16) (own_b w 24) (own_b w 32) 4) = own_lg false (own_b0 w) (own_b w 8) (own_b w 16) (own_b w 24) := by simp only [own_val]; simp [hn]
  rw [e, own_y0, own_bN w 8 8 (by decide), own_bN w 16 16 (by decide), own_bN w 24 24 (by decide), (own_lgR false (own_ylt w 0) (own_ylt w 8) (own_ylt w 16) (own_ylt w 24) hx).2 hq, (own_sgn _).1]; rfl
theorem own_bad5T {w : Int64} {x : Int32} (hn : own_b0 w = 45) (hx : x.toBitVec.toNat = own_q (own_y w 8) (own_y w 16) (own_y w 24) (own_y w 32)) (hq : ¬ ((((x ^^^ 808333360) &&& (-251662096)) ||| (((x ^^^ 808333360) + 100664838) &&& 268439568)) ||| 0 = (0 : Int32))) : some (Value.int (-2147483648 : Int32)) = some (Value.int (own_val (own_b0 w) (own_b w 8) (own_b w 16) (own_b w 24) (own_b w 32) 5)) := by
  have e : (own_val (own_b0 w) (own_b w 8) (own_b w 16) (own_b w 24) (own_b w 32) 5) = own_lg true (own_b w 8) (own_b w 16) (own_b w 24) (own_b w 32) := by simp only [own_val]; simp [hn]
  rw [e, own_bN w 8 8 (by decide), own_bN w 16 16 (by decide), own_bN w 24 24 (by decide), own_bN w 32 32 (by decide), (own_lgR true (own_ylt w 8) (own_ylt w 16) (own_ylt w 24) (own_ylt w 32) hx).1 hq]
theorem own_good5T {w : Int64} {x : Int32} (hn : own_b0 w = 45) (hx : x.toBitVec.toNat = own_q (own_y w 8) (own_y w 16) (own_y w 24) (own_y w 32)) (hq : ((((x ^^^ 808333360) &&& (-251662096)) ||| (((x ^^^ 808333360) + 100664838) &&& 268439568)) ||| 0 = (0 : Int32))) : some (Value.int ((((XT.ushrL (((x ^^^ 808333360) &&& 251662095).toInt64 * 1678376961) 24).toInt32 &&& 1023) ^^^ (-1 : Int32)) + (1 : Int32))) = some (Value.int (own_val (own_b0 w) (own_b w 8) (own_b w 16) (own_b w 24) (own_b w 32) 5)) := by
  have e : (own_val (own_b0 w) (own_b w 8) (own_b w 16) (own_b w 24) (own_b w 32) 5) = own_lg true (own_b w 8) (own_b w 16) (own_b w 24) (own_b w 32) := by simp only [own_val]; simp [hn]
  rw [e, own_bN w 8 8 (by decide), own_bN w 16 16 (by decide), own_bN w 24 24 (by decide), own_bN w 32 32 (by decide), (own_lgR true (own_ylt w 8) (own_ylt w 16) (own_ylt w 24) (own_ylt w 32) hx).2 hq, (own_sgn _).2]; rfl
theorem d1_0 : decode prog_8_method_6_code 0 = .ok (.iload_n 2, 1) := by decide +kernel
theorem d1_1 : decode prog_8_method_6_code 1 = .ok (.iconst 3, 1) := by decide +kernel
theorem d1_2 : decode prog_8_method_6_code 2 = .ok (.if_icmp .lt 8, 3) := by decide +kernel
theorem d1_5 : decode prog_8_method_6_code 5 = .ok (.iload_n 2, 1) := by decide +kernel
theorem d1_6 : decode prog_8_method_6_code 6 = .ok (.iconst 5, 1) := by decide +kernel
theorem d1_7 : decode prog_8_method_6_code 7 = .ok (.if_icmp .le 6, 3) := by decide +kernel
theorem d1_10 : decode prog_8_method_6_code 10 = .ok (.ldc 11, 2) := by decide +kernel
theorem d1_12 : decode prog_8_method_6_code 12 = .ok (.ireturn, 1) := by decide +kernel
theorem d1_13 : decode prog_8_method_6_code 13 = .ok (.lload_n 0, 1) := by decide +kernel
theorem d1_14 : decode prog_8_method_6_code 14 = .ok (.ldc2_w 33, 3) := by decide +kernel
theorem d1_17 : decode prog_8_method_6_code 17 = .ok (.land, 1) := by decide +kernel
theorem d1_18 : decode prog_8_method_6_code 18 = .ok (.ldc2_w 35, 3) := by decide +kernel
theorem d1_21 : decode prog_8_method_6_code 21 = .ok (.lxor, 1) := by decide +kernel
theorem d1_22 : decode prog_8_method_6_code 22 = .ok (.lconst 1, 1) := by decide +kernel
theorem d1_23 : decode prog_8_method_6_code 23 = .ok (.lsub, 1) := by decide +kernel
theorem d1_24 : decode prog_8_method_6_code 24 = .ok (.bipush 63, 2) := by decide +kernel
theorem d1_26 : decode prog_8_method_6_code 26 = .ok (.lushr, 1) := by decide +kernel
theorem d1_27 : decode prog_8_method_6_code 27 = .ok (.l2i, 1) := by decide +kernel
theorem d1_28 : decode prog_8_method_6_code 28 = .ok (.istore_n 3, 1) := by decide +kernel
theorem d1_29 : decode prog_8_method_6_code 29 = .ok (.iload_n 2, 1) := by decide +kernel
theorem d1_30 : decode prog_8_method_6_code 30 = .ok (.iconst 3, 1) := by decide +kernel
theorem d1_31 : decode prog_8_method_6_code 31 = .ok (.isub, 1) := by decide +kernel
theorem d1_32 : decode prog_8_method_6_code 32 = .ok (.iload_n 3, 1) := by decide +kernel
theorem d1_33 : decode prog_8_method_6_code 33 = .ok (.isub, 1) := by decide +kernel
theorem d1_34 : decode prog_8_method_6_code 34 = .ok (.istore 4, 2) := by decide +kernel
theorem d1_36 : decode prog_8_method_6_code 36 = .ok (.lload_n 0, 1) := by decide +kernel
theorem d1_37 : decode prog_8_method_6_code 37 = .ok (.iload_n 3, 1) := by decide +kernel
theorem d1_38 : decode prog_8_method_6_code 38 = .ok (.bipush 45, 2) := by decide +kernel
theorem d1_40 : decode prog_8_method_6_code 40 = .ok (.imul, 1) := by decide +kernel
theorem d1_41 : decode prog_8_method_6_code 41 = .ok (.i2l, 1) := by decide +kernel
theorem d1_42 : decode prog_8_method_6_code 42 = .ok (.lxor, 1) := by decide +kernel
theorem d1_43 : decode prog_8_method_6_code 43 = .ok (.bipush 8, 2) := by decide +kernel
theorem d1_45 : decode prog_8_method_6_code 45 = .ok (.lshl, 1) := by decide +kernel
theorem d1_46 : decode prog_8_method_6_code 46 = .ok (.bipush 8, 2) := by decide +kernel
theorem d1_48 : decode prog_8_method_6_code 48 = .ok (.iload_n 2, 1) := by decide +kernel
theorem d1_49 : decode prog_8_method_6_code 49 = .ok (.iconst 3, 1) := by decide +kernel
theorem d1_50 : decode prog_8_method_6_code 50 = .ok (.isub, 1) := by decide +kernel
theorem d1_51 : decode prog_8_method_6_code 51 = .ok (.imul, 1) := by decide +kernel
theorem d1_52 : decode prog_8_method_6_code 52 = .ok (.lushr, 1) := by decide +kernel
theorem d1_53 : decode prog_8_method_6_code 53 = .ok (.l2i, 1) := by decide +kernel
theorem d1_54 : decode prog_8_method_6_code 54 = .ok (.istore 5, 2) := by decide +kernel
theorem d1_56 : decode prog_8_method_6_code 56 = .ok (.iload 5, 2) := by decide +kernel
theorem d1_58 : decode prog_8_method_6_code 58 = .ok (.ldc 39, 2) := by decide +kernel
theorem d1_60 : decode prog_8_method_6_code 60 = .ok (.iload 4, 2) := by decide +kernel
theorem d1_62 : decode prog_8_method_6_code 62 = .ok (.bipush 48, 2) := by decide +kernel
theorem d1_64 : decode prog_8_method_6_code 64 = .ok (.imul, 1) := by decide +kernel
theorem d1_65 : decode prog_8_method_6_code 65 = .ok (.ior, 1) := by decide +kernel
theorem d1_66 : decode prog_8_method_6_code 66 = .ok (.ixor, 1) := by decide +kernel
theorem d1_67 : decode prog_8_method_6_code 67 = .ok (.istore 6, 2) := by decide +kernel
theorem d1_69 : decode prog_8_method_6_code 69 = .ok (.iload 6, 2) := by decide +kernel
theorem d1_71 : decode prog_8_method_6_code 71 = .ok (.ldc 40, 2) := by decide +kernel
theorem d1_73 : decode prog_8_method_6_code 73 = .ok (.iand, 1) := by decide +kernel
theorem d1_74 : decode prog_8_method_6_code 74 = .ok (.iload 6, 2) := by decide +kernel
theorem d1_76 : decode prog_8_method_6_code 76 = .ok (.ldc 41, 2) := by decide +kernel
theorem d1_78 : decode prog_8_method_6_code 78 = .ok (.iadd, 1) := by decide +kernel
theorem d1_79 : decode prog_8_method_6_code 79 = .ok (.ldc 42, 2) := by decide +kernel
theorem d1_81 : decode prog_8_method_6_code 81 = .ok (.iand, 1) := by decide +kernel
theorem d1_82 : decode prog_8_method_6_code 82 = .ok (.ior, 1) := by decide +kernel
theorem d1_83 : decode prog_8_method_6_code 83 = .ok (.iload 4, 2) := by decide +kernel
theorem d1_85 : decode prog_8_method_6_code 85 = .ok (.bipush (-2), 2) := by decide +kernel
theorem d1_87 : decode prog_8_method_6_code 87 = .ok (.iand, 1) := by decide +kernel
theorem d1_88 : decode prog_8_method_6_code 88 = .ok (.ior, 1) := by decide +kernel
theorem d1_89 : decode prog_8_method_6_code 89 = .ok (.istore 7, 2) := by decide +kernel
theorem d1_91 : decode prog_8_method_6_code 91 = .ok (.iload 7, 2) := by decide +kernel
theorem d1_93 : decode prog_8_method_6_code 93 = .ok (.ifCond .eq 6, 3) := by decide +kernel
theorem d1_96 : decode prog_8_method_6_code 96 = .ok (.ldc 11, 2) := by decide +kernel
theorem d1_98 : decode prog_8_method_6_code 98 = .ok (.ireturn, 1) := by decide +kernel
theorem d1_99 : decode prog_8_method_6_code 99 = .ok (.iload 6, 2) := by decide +kernel
theorem d1_101 : decode prog_8_method_6_code 101 = .ok (.ldc 43, 2) := by decide +kernel
theorem d1_103 : decode prog_8_method_6_code 103 = .ok (.iand, 1) := by decide +kernel
theorem d1_104 : decode prog_8_method_6_code 104 = .ok (.i2l, 1) := by decide +kernel
theorem d1_105 : decode prog_8_method_6_code 105 = .ok (.ldc2_w 44, 3) := by decide +kernel
theorem d1_108 : decode prog_8_method_6_code 108 = .ok (.lmul, 1) := by decide +kernel
theorem d1_109 : decode prog_8_method_6_code 109 = .ok (.bipush 24, 2) := by decide +kernel
theorem d1_111 : decode prog_8_method_6_code 111 = .ok (.lushr, 1) := by decide +kernel
theorem d1_112 : decode prog_8_method_6_code 112 = .ok (.l2i, 1) := by decide +kernel
theorem d1_113 : decode prog_8_method_6_code 113 = .ok (.sipush 1023, 3) := by decide +kernel
theorem d1_116 : decode prog_8_method_6_code 116 = .ok (.iand, 1) := by decide +kernel
theorem d1_117 : decode prog_8_method_6_code 117 = .ok (.istore 8, 2) := by decide +kernel
theorem d1_119 : decode prog_8_method_6_code 119 = .ok (.iload 8, 2) := by decide +kernel
theorem d1_121 : decode prog_8_method_6_code 121 = .ok (.iload_n 3, 1) := by decide +kernel
theorem d1_122 : decode prog_8_method_6_code 122 = .ok (.ineg, 1) := by decide +kernel
theorem d1_123 : decode prog_8_method_6_code 123 = .ok (.ixor, 1) := by decide +kernel
theorem d1_124 : decode prog_8_method_6_code 124 = .ok (.iload_n 3, 1) := by decide +kernel
theorem d1_125 : decode prog_8_method_6_code 125 = .ok (.iadd, 1) := by decide +kernel
theorem d1_126 : decode prog_8_method_6_code 126 = .ok (.ireturn, 1) := by decide +kernel
theorem d2_0 : decode method_4_code 0 = .ok (.iload_n 2, 1) := by decide +kernel
theorem d2_1 : decode method_4_code 1 = .ok (.iconst 3, 1) := by decide +kernel
theorem d2_2 : decode method_4_code 2 = .ok (.if_icmp .lt 8, 3) := by decide +kernel
theorem d2_5 : decode method_4_code 5 = .ok (.iload_n 2, 1) := by decide +kernel
theorem d2_6 : decode method_4_code 6 = .ok (.iconst 5, 1) := by decide +kernel
theorem d2_7 : decode method_4_code 7 = .ok (.if_icmp .le 6, 3) := by decide +kernel
theorem d2_10 : decode method_4_code 10 = .ok (.ldc 28, 2) := by decide +kernel
theorem d2_12 : decode method_4_code 12 = .ok (.ireturn, 1) := by decide +kernel
theorem d2_13 : decode method_4_code 13 = .ok (.iconst 5, 1) := by decide +kernel
theorem d2_14 : decode method_4_code 14 = .ok (.newarray .int, 2) := by decide +kernel
theorem d2_16 : decode method_4_code 16 = .ok (.astore_n 3, 1) := by decide +kernel
theorem d2_17 : decode method_4_code 17 = .ok (.aload_n 3, 1) := by decide +kernel
theorem d2_18 : decode method_4_code 18 = .ok (.iconst 0, 1) := by decide +kernel
theorem d2_19 : decode method_4_code 19 = .ok (.lload_n 0, 1) := by decide +kernel
theorem d2_20 : decode method_4_code 20 = .ok (.ldc2_w 13, 3) := by decide +kernel
theorem d2_23 : decode method_4_code 23 = .ok (.land, 1) := by decide +kernel
theorem d2_24 : decode method_4_code 24 = .ok (.l2i, 1) := by decide +kernel
theorem d2_25 : decode method_4_code 25 = .ok (.iastore, 1) := by decide +kernel
theorem d2_26 : decode method_4_code 26 = .ok (.aload_n 3, 1) := by decide +kernel
theorem d2_27 : decode method_4_code 27 = .ok (.iconst 1, 1) := by decide +kernel
theorem d2_28 : decode method_4_code 28 = .ok (.lload_n 0, 1) := by decide +kernel
theorem d2_29 : decode method_4_code 29 = .ok (.bipush 8, 2) := by decide +kernel
theorem d2_31 : decode method_4_code 31 = .ok (.lushr, 1) := by decide +kernel
theorem d2_32 : decode method_4_code 32 = .ok (.ldc2_w 13, 3) := by decide +kernel
theorem d2_35 : decode method_4_code 35 = .ok (.land, 1) := by decide +kernel
theorem d2_36 : decode method_4_code 36 = .ok (.l2i, 1) := by decide +kernel
theorem d2_37 : decode method_4_code 37 = .ok (.iastore, 1) := by decide +kernel
theorem d2_38 : decode method_4_code 38 = .ok (.aload_n 3, 1) := by decide +kernel
theorem d2_39 : decode method_4_code 39 = .ok (.iconst 2, 1) := by decide +kernel
theorem d2_40 : decode method_4_code 40 = .ok (.lload_n 0, 1) := by decide +kernel
theorem d2_41 : decode method_4_code 41 = .ok (.bipush 16, 2) := by decide +kernel
theorem d2_43 : decode method_4_code 43 = .ok (.lushr, 1) := by decide +kernel
theorem d2_44 : decode method_4_code 44 = .ok (.ldc2_w 13, 3) := by decide +kernel
theorem d2_47 : decode method_4_code 47 = .ok (.land, 1) := by decide +kernel
theorem d2_48 : decode method_4_code 48 = .ok (.l2i, 1) := by decide +kernel
theorem d2_49 : decode method_4_code 49 = .ok (.iastore, 1) := by decide +kernel
theorem d2_50 : decode method_4_code 50 = .ok (.aload_n 3, 1) := by decide +kernel
theorem d2_51 : decode method_4_code 51 = .ok (.iconst 3, 1) := by decide +kernel
theorem d2_52 : decode method_4_code 52 = .ok (.lload_n 0, 1) := by decide +kernel
theorem d2_53 : decode method_4_code 53 = .ok (.bipush 24, 2) := by decide +kernel
theorem d2_55 : decode method_4_code 55 = .ok (.lushr, 1) := by decide +kernel
theorem d2_56 : decode method_4_code 56 = .ok (.ldc2_w 13, 3) := by decide +kernel
theorem d2_59 : decode method_4_code 59 = .ok (.land, 1) := by decide +kernel
theorem d2_60 : decode method_4_code 60 = .ok (.l2i, 1) := by decide +kernel
theorem d2_61 : decode method_4_code 61 = .ok (.iastore, 1) := by decide +kernel
theorem d2_62 : decode method_4_code 62 = .ok (.aload_n 3, 1) := by decide +kernel
theorem d2_63 : decode method_4_code 63 = .ok (.iconst 4, 1) := by decide +kernel
theorem d2_64 : decode method_4_code 64 = .ok (.lload_n 0, 1) := by decide +kernel
theorem d2_65 : decode method_4_code 65 = .ok (.bipush 32, 2) := by decide +kernel
theorem d2_67 : decode method_4_code 67 = .ok (.lushr, 1) := by decide +kernel
theorem d2_68 : decode method_4_code 68 = .ok (.ldc2_w 13, 3) := by decide +kernel
theorem d2_71 : decode method_4_code 71 = .ok (.land, 1) := by decide +kernel
theorem d2_72 : decode method_4_code 72 = .ok (.l2i, 1) := by decide +kernel
theorem d2_73 : decode method_4_code 73 = .ok (.iastore, 1) := by decide +kernel
theorem d2_74 : decode method_4_code 74 = .ok (.aload_n 3, 1) := by decide +kernel
theorem d2_75 : decode method_4_code 75 = .ok (.iconst 0, 1) := by decide +kernel
theorem d2_76 : decode method_4_code 76 = .ok (.iaload, 1) := by decide +kernel
theorem d2_77 : decode method_4_code 77 = .ok (.bipush 45, 2) := by decide +kernel
theorem d2_79 : decode method_4_code 79 = .ok (.if_icmp .ne 7, 3) := by decide +kernel
theorem d2_82 : decode method_4_code 82 = .ok (.iconst 1, 1) := by decide +kernel
theorem d2_83 : decode method_4_code 83 = .ok (.goto 4, 3) := by decide +kernel
theorem d2_86 : decode method_4_code 86 = .ok (.iconst 0, 1) := by decide +kernel
theorem d2_87 : decode method_4_code 87 = .ok (.istore 4, 2) := by decide +kernel
theorem d2_89 : decode method_4_code 89 = .ok (.iload 4, 2) := by decide +kernel
theorem d2_91 : decode method_4_code 91 = .ok (.ifCond .eq 7, 3) := by decide +kernel
theorem d2_94 : decode method_4_code 94 = .ok (.iconst 1, 1) := by decide +kernel
theorem d2_95 : decode method_4_code 95 = .ok (.goto 4, 3) := by decide +kernel
theorem d2_98 : decode method_4_code 98 = .ok (.iconst 0, 1) := by decide +kernel
theorem d2_99 : decode method_4_code 99 = .ok (.istore 5, 2) := by decide +kernel
theorem d2_101 : decode method_4_code 101 = .ok (.iload_n 2, 1) := by decide +kernel
theorem d2_102 : decode method_4_code 102 = .ok (.iload 5, 2) := by decide +kernel
theorem d2_104 : decode method_4_code 104 = .ok (.isub, 1) := by decide +kernel
theorem d2_105 : decode method_4_code 105 = .ok (.istore 6, 2) := by decide +kernel
theorem d2_107 : decode method_4_code 107 = .ok (.iload 6, 2) := by decide +kernel
theorem d2_109 : decode method_4_code 109 = .ok (.iconst 3, 1) := by decide +kernel
theorem d2_110 : decode method_4_code 110 = .ok (.if_icmp .ne 64, 3) := by decide +kernel
theorem d2_113 : decode method_4_code 113 = .ok (.aload_n 3, 1) := by decide +kernel
theorem d2_114 : decode method_4_code 114 = .ok (.iload 5, 2) := by decide +kernel
theorem d2_116 : decode method_4_code 116 = .ok (.iaload, 1) := by decide +kernel
theorem d2_117 : decode method_4_code 117 = .ok (.invokestatic 29, 3) := by decide +kernel
theorem d2_120 : decode method_4_code 120 = .ok (.ifCond .eq 26, 3) := by decide +kernel
theorem d2_123 : decode method_4_code 123 = .ok (.aload_n 3, 1) := by decide +kernel
theorem d2_124 : decode method_4_code 124 = .ok (.iload 5, 2) := by decide +kernel
theorem d2_126 : decode method_4_code 126 = .ok (.iconst 1, 1) := by decide +kernel
theorem d2_127 : decode method_4_code 127 = .ok (.iadd, 1) := by decide +kernel
theorem d2_128 : decode method_4_code 128 = .ok (.iaload, 1) := by decide +kernel
theorem d2_129 : decode method_4_code 129 = .ok (.bipush 46, 2) := by decide +kernel
theorem d2_131 : decode method_4_code 131 = .ok (.if_icmp .ne 15, 3) := by decide +kernel
theorem d2_134 : decode method_4_code 134 = .ok (.aload_n 3, 1) := by decide +kernel
theorem d2_135 : decode method_4_code 135 = .ok (.iload 5, 2) := by decide +kernel
theorem d2_137 : decode method_4_code 137 = .ok (.iconst 2, 1) := by decide +kernel
theorem d2_138 : decode method_4_code 138 = .ok (.iadd, 1) := by decide +kernel
theorem d2_139 : decode method_4_code 139 = .ok (.iaload, 1) := by decide +kernel
theorem d2_140 : decode method_4_code 140 = .ok (.invokestatic 29, 3) := by decide +kernel
theorem d2_143 : decode method_4_code 143 = .ok (.ifCond .ne 6, 3) := by decide +kernel
theorem d2_146 : decode method_4_code 146 = .ok (.ldc 28, 2) := by decide +kernel
theorem d2_148 : decode method_4_code 148 = .ok (.ireturn, 1) := by decide +kernel
theorem d2_149 : decode method_4_code 149 = .ok (.aload_n 3, 1) := by decide +kernel
theorem d2_150 : decode method_4_code 150 = .ok (.iload 5, 2) := by decide +kernel
theorem d2_152 : decode method_4_code 152 = .ok (.iaload, 1) := by decide +kernel
theorem d2_153 : decode method_4_code 153 = .ok (.bipush 48, 2) := by decide +kernel
theorem d2_155 : decode method_4_code 155 = .ok (.isub, 1) := by decide +kernel
theorem d2_156 : decode method_4_code 156 = .ok (.bipush 10, 2) := by decide +kernel
theorem d2_158 : decode method_4_code 158 = .ok (.imul, 1) := by decide +kernel
theorem d2_159 : decode method_4_code 159 = .ok (.aload_n 3, 1) := by decide +kernel
theorem d2_160 : decode method_4_code 160 = .ok (.iload 5, 2) := by decide +kernel
theorem d2_162 : decode method_4_code 162 = .ok (.iconst 2, 1) := by decide +kernel
theorem d2_163 : decode method_4_code 163 = .ok (.iadd, 1) := by decide +kernel
theorem d2_164 : decode method_4_code 164 = .ok (.iaload, 1) := by decide +kernel
theorem d2_165 : decode method_4_code 165 = .ok (.bipush 48, 2) := by decide +kernel
theorem d2_167 : decode method_4_code 167 = .ok (.isub, 1) := by decide +kernel
theorem d2_168 : decode method_4_code 168 = .ok (.iadd, 1) := by decide +kernel
theorem d2_169 : decode method_4_code 169 = .ok (.istore 7, 2) := by decide +kernel
theorem d2_171 : decode method_4_code 171 = .ok (.goto 98, 3) := by decide +kernel
theorem d2_174 : decode method_4_code 174 = .ok (.iload 6, 2) := by decide +kernel
theorem d2_176 : decode method_4_code 176 = .ok (.iconst 4, 1) := by decide +kernel
theorem d2_177 : decode method_4_code 177 = .ok (.if_icmp .ne 89, 3) := by decide +kernel
theorem d2_180 : decode method_4_code 180 = .ok (.aload_n 3, 1) := by decide +kernel
theorem d2_181 : decode method_4_code 181 = .ok (.iload 5, 2) := by decide +kernel
theorem d2_183 : decode method_4_code 183 = .ok (.iaload, 1) := by decide +kernel
theorem d2_184 : decode method_4_code 184 = .ok (.invokestatic 29, 3) := by decide +kernel
theorem d2_187 : decode method_4_code 187 = .ok (.ifCond .eq 38, 3) := by decide +kernel
theorem d2_190 : decode method_4_code 190 = .ok (.aload_n 3, 1) := by decide +kernel
theorem d2_191 : decode method_4_code 191 = .ok (.iload 5, 2) := by decide +kernel
theorem d2_193 : decode method_4_code 193 = .ok (.iconst 1, 1) := by decide +kernel
theorem d2_194 : decode method_4_code 194 = .ok (.iadd, 1) := by decide +kernel
theorem d2_195 : decode method_4_code 195 = .ok (.iaload, 1) := by decide +kernel
theorem d2_196 : decode method_4_code 196 = .ok (.invokestatic 29, 3) := by decide +kernel
theorem d2_199 : decode method_4_code 199 = .ok (.ifCond .eq 26, 3) := by decide +kernel
theorem d2_202 : decode method_4_code 202 = .ok (.aload_n 3, 1) := by decide +kernel
theorem d2_203 : decode method_4_code 203 = .ok (.iload 5, 2) := by decide +kernel
theorem d2_205 : decode method_4_code 205 = .ok (.iconst 2, 1) := by decide +kernel
theorem d2_206 : decode method_4_code 206 = .ok (.iadd, 1) := by decide +kernel
theorem d2_207 : decode method_4_code 207 = .ok (.iaload, 1) := by decide +kernel
theorem d2_208 : decode method_4_code 208 = .ok (.bipush 46, 2) := by decide +kernel
theorem d2_210 : decode method_4_code 210 = .ok (.if_icmp .ne 15, 3) := by decide +kernel
theorem d2_213 : decode method_4_code 213 = .ok (.aload_n 3, 1) := by decide +kernel
theorem d2_214 : decode method_4_code 214 = .ok (.iload 5, 2) := by decide +kernel
theorem d2_216 : decode method_4_code 216 = .ok (.iconst 3, 1) := by decide +kernel
theorem d2_217 : decode method_4_code 217 = .ok (.iadd, 1) := by decide +kernel
theorem d2_218 : decode method_4_code 218 = .ok (.iaload, 1) := by decide +kernel
theorem d2_219 : decode method_4_code 219 = .ok (.invokestatic 29, 3) := by decide +kernel
theorem d2_222 : decode method_4_code 222 = .ok (.ifCond .ne 6, 3) := by decide +kernel
theorem d2_225 : decode method_4_code 225 = .ok (.ldc 28, 2) := by decide +kernel
theorem d2_227 : decode method_4_code 227 = .ok (.ireturn, 1) := by decide +kernel
theorem d2_228 : decode method_4_code 228 = .ok (.aload_n 3, 1) := by decide +kernel
theorem d2_229 : decode method_4_code 229 = .ok (.iload 5, 2) := by decide +kernel
theorem d2_231 : decode method_4_code 231 = .ok (.iaload, 1) := by decide +kernel
theorem d2_232 : decode method_4_code 232 = .ok (.bipush 48, 2) := by decide +kernel
theorem d2_234 : decode method_4_code 234 = .ok (.isub, 1) := by decide +kernel
theorem d2_235 : decode method_4_code 235 = .ok (.bipush 100, 2) := by decide +kernel
theorem d2_237 : decode method_4_code 237 = .ok (.imul, 1) := by decide +kernel
theorem d2_238 : decode method_4_code 238 = .ok (.aload_n 3, 1) := by decide +kernel
theorem d2_239 : decode method_4_code 239 = .ok (.iload 5, 2) := by decide +kernel
theorem d2_241 : decode method_4_code 241 = .ok (.iconst 1, 1) := by decide +kernel
theorem d2_242 : decode method_4_code 242 = .ok (.iadd, 1) := by decide +kernel
theorem d2_243 : decode method_4_code 243 = .ok (.iaload, 1) := by decide +kernel
theorem d2_244 : decode method_4_code 244 = .ok (.bipush 48, 2) := by decide +kernel
theorem d2_246 : decode method_4_code 246 = .ok (.isub, 1) := by decide +kernel
theorem d2_247 : decode method_4_code 247 = .ok (.bipush 10, 2) := by decide +kernel
theorem d2_249 : decode method_4_code 249 = .ok (.imul, 1) := by decide +kernel
theorem d2_250 : decode method_4_code 250 = .ok (.iadd, 1) := by decide +kernel
theorem d2_251 : decode method_4_code 251 = .ok (.aload_n 3, 1) := by decide +kernel
theorem d2_252 : decode method_4_code 252 = .ok (.iload 5, 2) := by decide +kernel
theorem d2_254 : decode method_4_code 254 = .ok (.iconst 3, 1) := by decide +kernel
theorem d2_255 : decode method_4_code 255 = .ok (.iadd, 1) := by decide +kernel
theorem d2_256 : decode method_4_code 256 = .ok (.iaload, 1) := by decide +kernel
theorem d2_257 : decode method_4_code 257 = .ok (.bipush 48, 2) := by decide +kernel
theorem d2_259 : decode method_4_code 259 = .ok (.isub, 1) := by decide +kernel
theorem d2_260 : decode method_4_code 260 = .ok (.iadd, 1) := by decide +kernel
theorem d2_261 : decode method_4_code 261 = .ok (.istore 7, 2) := by decide +kernel
theorem d2_263 : decode method_4_code 263 = .ok (.goto 6, 3) := by decide +kernel
theorem d2_266 : decode method_4_code 266 = .ok (.ldc 28, 2) := by decide +kernel
theorem d2_268 : decode method_4_code 268 = .ok (.ireturn, 1) := by decide +kernel
theorem d2_269 : decode method_4_code 269 = .ok (.iload 4, 2) := by decide +kernel
theorem d2_271 : decode method_4_code 271 = .ok (.ifCond .eq 9, 3) := by decide +kernel
theorem d2_274 : decode method_4_code 274 = .ok (.iload 7, 2) := by decide +kernel
theorem d2_276 : decode method_4_code 276 = .ok (.ineg, 1) := by decide +kernel
theorem d2_277 : decode method_4_code 277 = .ok (.goto 5, 3) := by decide +kernel
theorem d2_280 : decode method_4_code 280 = .ok (.iload 7, 2) := by decide +kernel
theorem d2_282 : decode method_4_code 282 = .ok (.ireturn, 1) := by decide +kernel
theorem d3_0 : decode method_3_code 0 = .ok (.iload_n 0, 1) := by decide +kernel
theorem d3_1 : decode method_3_code 1 = .ok (.bipush 48, 2) := by decide +kernel
theorem d3_3 : decode method_3_code 3 = .ok (.if_icmp .lt 13, 3) := by decide +kernel
theorem d3_6 : decode method_3_code 6 = .ok (.iload_n 0, 1) := by decide +kernel
theorem d3_7 : decode method_3_code 7 = .ok (.bipush 57, 2) := by decide +kernel
theorem d3_9 : decode method_3_code 9 = .ok (.if_icmp .gt 7, 3) := by decide +kernel
theorem d3_12 : decode method_3_code 12 = .ok (.iconst 1, 1) := by decide +kernel
theorem d3_13 : decode method_3_code 13 = .ok (.goto 4, 3) := by decide +kernel
theorem d3_16 : decode method_3_code 16 = .ok (.iconst 0, 1) := by decide +kernel
theorem d3_17 : decode method_3_code 17 = .ok (.ireturn, 1) := by decide +kernel
theorem pd_0 : parseMethodDescriptor "(I)Z" = some ⟨[.int], some .boolean⟩ := by decide +kernel
theorem pd_1 : parseMethodDescriptor "(JI)I" = some ⟨[.long, .int], some .int⟩ := by decide +kernel
set_option maxRecDepth 65536 in
set_option maxHeartbeats 4000000 in
theorem c_dig (l : Launch) (Z : State) (a0 : Array Value) (hw : ∀ d ∈ tables_1, d.before a0 Z = true) (wl : List Jvm.Cond) (n0 : Nat) (h : Heap) (c : Int32) :
    Ctr l Z (⟨"com/example/nanoparse/nanoparse/DecimalsParseTenthsPinLaw", "isDigit", "(I)Z"⟩ : MethodName) method_3_code 1 (some .boolean) ({ frames := 0, cells := 0, slots := 0, locals := 0 } : Room) n0 #[(.int c)] h (fun v h' => v = some (.int (b2i (own_dig c))) ∧ h' = h) wl := by
  refine Ctr.of (ls := #[.val (.int c)]) (by first | (exact plainFor_of_name (by first | (simp [plainName, overriddenIn]; done) | decide +kernel)) | decide +kernel) hw (fun m => entry_eq m (L1 := [.val (.int c)]) (k := 0) rfl rfl rfl) (fun G C => ?_)
  refine C.iloadN d3_0 rfl (pc' := 1) rfl ?_
  refine C.bipush d3_1 (v := 48) rfl (pc' := 3) rfl ?_
  refine C.icmp_lt d3_3 (by decide) (pc1 := 16) rfl (pc2 := 6) rfl (fun hc => ?_) (fun hc => ?_)
  · refine C.iconst d3_16 (v := 0) rfl (pc' := 17) rfl ?_
    exact C.nreturn (b := (0 : Int32)) d3_17 rfl (by simp) (by decide) (by decide) rfl ⟨by simp [own_dig, b2i, hc], rfl⟩
  · refine C.iloadN d3_6 rfl (pc' := 7) rfl ?_
    refine C.bipush d3_7 (v := 57) rfl (pc' := 9) rfl ?_
    refine C.icmp_gt d3_9 (by decide) (pc1 := 16) rfl (pc2 := 12) rfl (fun hd => ?_) (fun hd => ?_)
    · refine C.iconst d3_16 (v := 0) rfl (pc' := 17) rfl ?_
      exact C.nreturn (b := (0 : Int32)) d3_17 rfl (by simp) (by decide) (by decide) rfl ⟨by simp [own_dig, b2i, hd], rfl⟩
    · refine C.iconst d3_12 (v := 1) rfl (pc' := 13) rfl ?_
      refine C.goto d3_13 (by decide) (pc' := 17) rfl ?_
      exact C.nreturn (b := (1 : Int32)) d3_17 rfl (by simp) (by decide) (by decide) rfl ⟨by simp [own_dig, b2i, hc, hd], rfl⟩
set_option maxRecDepth 65536 in
set_option maxHeartbeats 4000000 in
theorem c_ref (l : Launch) (Z : State) (a0 : Array Value) (hw : ∀ d ∈ tables_1, d.before a0 Z = true) (wl : List Jvm.Cond) (n0 : Nat) (h : Heap) (w : Int64) (n : Int32) (hz : n0 ≤ h.size) :
    Ctr l Z (⟨"com/example/nanoparse/nanoparse/DecimalsParseTenthsPinLaw", "reference", "(JI)I"⟩ : MethodName) method_4_code 8 (some .int) ({ frames := 1, cells := 1, slots := 5, locals := 12 } : Room) n0 #[(.long w), (.int n)] h (fun v _ => v = some (.int (own_val (own_b0 w) (own_b w 8) (own_b w 16) (own_b w 24) (own_b w 32) n))) wl := by
  refine Ctr.of (ls := #[.val (.long w), .second, .val (.int n), .unset, .unset, .unset, .unset, .unset]) (by first | (exact plainFor_of_name (by first | (simp [plainName, overriddenIn]; done) | decide +kernel)) | decide +kernel) hw (fun m => entry_eq m (L1 := [.val (.long w), .second, .val (.int n)]) (k := 5) rfl rfl rfl) (fun G C => ?_)
  refine C.iloadN d2_0 rfl (pc' := 1) rfl ?_
  refine C.iconst d2_1 (v := 3) rfl (pc' := 2) rfl ?_
  refine C.icmp_lt d2_2 (by decide) (pc1 := 10) rfl (pc2 := 5) rfl (fun h1 => ?_) (fun h1 => ?_)
  · refine C.ldcI (i := 11) rfl d2_10 (pc' := 12) rfl ?_
    exact C.ireturn d2_12 rfl (by decide) (by decide) (by rw [own_val_lt h1])
  · refine C.iloadN d2_5 rfl (pc' := 6) rfl ?_
    refine C.iconst d2_6 (v := 5) rfl (pc' := 7) rfl ?_
    refine C.icmp_le d2_7 (by decide) (pc1 := 13) rfl (pc2 := 10) rfl (fun h2 => ?_) (fun h2 => ?_)
    · rcases own_345 h1 h2 with rfl | rfl | rfl
      · refine C.iconst d2_13 (v := 5) rfl (pc' := 14) rfl ?_
        refine C.newarray (w := 21) (ty := .int) rfl rfl (N := 5) ⟨by decide, by decide⟩ (d := (.int (0 : Int32))) rfl (vs := [(.int (0 : Int32)), (.int (0 : Int32)), (.int (0 : Int32)), (.int (0 : Int32)), (.int (0 : Int32))]) rfl (cap := 5) (by decide) (by decide) (by decide) (by decide) d2_14 (pc' := 16) rfl ?_
        intro h1 o2 q3 E4 V_o2
        have g_o2 : n0 ≤ o2 := Nat.le_trans hz (Nat.le_of_eq q3.symm)
        have hz := Nat.le_trans hz E4.1
        refine C.astoreN d2_16 (ls' := #[.val (.long w), .second, .val (.int (3 : Int32)), .val (.ref o2), .unset, .unset, .unset, .unset]) rfl (pc' := 17) rfl ?_
        refine C.aloadN d2_17 rfl (pc' := 18) rfl ?_
        refine C.iconst d2_18 (v := 0) rfl (pc' := 19) rfl ?_
        refine C.lloadN d2_19 rfl (pc' := 20) rfl ?_
        refine C.ldcJ (i := 13) rfl d2_20 (pc' := 23) rfl ?_
        refine C.land d2_23 (pc' := 24) rfl ?_
        refine C.l2i d2_24 (pc' := 25) rfl ?_
        refine castI (show ((w &&& (255 : Int64))).toInt32 = (own_b0 w) from rfl) ?_
        refine C.iastore V_o2 (i := 0) ⟨by decide, by decide⟩ (by simp) (vs' := [(.int (own_b0 w)), (.int (0 : Int32)), (.int (0 : Int32)), (.int (0 : Int32)), (.int (0 : Int32))]) rfl g_o2 d2_25 (pc' := 26) rfl ?_
        intro h5 W6 V_o2
        have hz : n0 ≤ _ := Nat.le_trans hz (Nat.le_of_eq W6.size.symm)
        refine C.aloadN d2_26 rfl (pc' := 27) rfl ?_
        refine C.iconst d2_27 (v := 1) rfl (pc' := 28) rfl ?_
        refine C.lloadN d2_28 rfl (pc' := 29) rfl ?_
        refine C.bipush d2_29 (v := 8) rfl (pc' := 31) rfl ?_
        refine C.lushr d2_31 (pc' := 32) rfl ?_
        refine C.ldcJ (i := 13) rfl d2_32 (pc' := 35) rfl ?_
        refine C.land d2_35 (pc' := 36) rfl ?_
        refine C.l2i d2_36 (pc' := 37) rfl ?_
        refine castI (show (((XT.ushrL w (8 : Int32)) &&& (255 : Int64))).toInt32 = (own_b w 8) from rfl) ?_
        refine C.iastore V_o2 (i := 1) ⟨by decide, by decide⟩ (by simp) (vs' := [(.int (own_b0 w)), (.int (own_b w 8)), (.int (0 : Int32)), (.int (0 : Int32)), (.int (0 : Int32))]) rfl g_o2 d2_37 (pc' := 38) rfl ?_
        intro h7 W8 V_o2
        have hz : n0 ≤ _ := Nat.le_trans hz (Nat.le_of_eq W8.size.symm)
        refine C.aloadN d2_38 rfl (pc' := 39) rfl ?_
        refine C.iconst d2_39 (v := 2) rfl (pc' := 40) rfl ?_
        refine C.lloadN d2_40 rfl (pc' := 41) rfl ?_
        refine C.bipush d2_41 (v := 16) rfl (pc' := 43) rfl ?_
        refine C.lushr d2_43 (pc' := 44) rfl ?_
        refine C.ldcJ (i := 13) rfl d2_44 (pc' := 47) rfl ?_
        refine C.land d2_47 (pc' := 48) rfl ?_
        refine C.l2i d2_48 (pc' := 49) rfl ?_
        refine castI (show (((XT.ushrL w (16 : Int32)) &&& (255 : Int64))).toInt32 = (own_b w 16) from rfl) ?_
        refine C.iastore V_o2 (i := 2) ⟨by decide, by decide⟩ (by simp) (vs' := [(.int (own_b0 w)), (.int (own_b w 8)), (.int (own_b w 16)), (.int (0 : Int32)), (.int (0 : Int32))]) rfl g_o2 d2_49 (pc' := 50) rfl ?_
        intro h9 W10 V_o2
        have hz : n0 ≤ _ := Nat.le_trans hz (Nat.le_of_eq W10.size.symm)
        refine C.aloadN d2_50 rfl (pc' := 51) rfl ?_
        refine C.iconst d2_51 (v := 3) rfl (pc' := 52) rfl ?_
        refine C.lloadN d2_52 rfl (pc' := 53) rfl ?_
        refine C.bipush d2_53 (v := 24) rfl (pc' := 55) rfl ?_
        refine C.lushr d2_55 (pc' := 56) rfl ?_
        refine C.ldcJ (i := 13) rfl d2_56 (pc' := 59) rfl ?_
        refine C.land d2_59 (pc' := 60) rfl ?_
        refine C.l2i d2_60 (pc' := 61) rfl ?_
        refine castI (show (((XT.ushrL w (24 : Int32)) &&& (255 : Int64))).toInt32 = (own_b w 24) from rfl) ?_
        refine C.iastore V_o2 (i := 3) ⟨by decide, by decide⟩ (by simp) (vs' := [(.int (own_b0 w)), (.int (own_b w 8)), (.int (own_b w 16)), (.int (own_b w 24)), (.int (0 : Int32))]) rfl g_o2 d2_61 (pc' := 62) rfl ?_
        intro h11 W12 V_o2
        have hz : n0 ≤ _ := Nat.le_trans hz (Nat.le_of_eq W12.size.symm)
        refine C.aloadN d2_62 rfl (pc' := 63) rfl ?_
        refine C.iconst d2_63 (v := 4) rfl (pc' := 64) rfl ?_
        refine C.lloadN d2_64 rfl (pc' := 65) rfl ?_
        refine C.bipush d2_65 (v := 32) rfl (pc' := 67) rfl ?_
        refine C.lushr d2_67 (pc' := 68) rfl ?_
        refine C.ldcJ (i := 13) rfl d2_68 (pc' := 71) rfl ?_
        refine C.land d2_71 (pc' := 72) rfl ?_
        refine C.l2i d2_72 (pc' := 73) rfl ?_
        refine castI (show (((XT.ushrL w (32 : Int32)) &&& (255 : Int64))).toInt32 = (own_b w 32) from rfl) ?_
        refine C.iastore V_o2 (i := 4) ⟨by decide, by decide⟩ (by simp) (vs' := [(.int (own_b0 w)), (.int (own_b w 8)), (.int (own_b w 16)), (.int (own_b w 24)), (.int (own_b w 32))]) rfl g_o2 d2_73 (pc' := 74) rfl ?_
        intro h13 W14 V_o2
        have hz : n0 ≤ _ := Nat.le_trans hz (Nat.le_of_eq W14.size.symm)
        refine C.aloadN d2_74 rfl (pc' := 75) rfl ?_
        refine C.iconst d2_75 (v := 0) rfl (pc' := 76) rfl ?_
        refine C.iaload V_o2 (i := 0) ⟨by decide, by decide⟩ (v := (.int (own_b0 w))) rfl d2_76 (pc' := 77) rfl ?_
        refine C.bipush d2_77 (v := 45) rfl (pc' := 79) rfl ?_
        refine C.icmp_ne d2_79 (by decide) (pc1 := 86) rfl (pc2 := 82) rfl (fun hn => ?_) (fun hn => ?_)
        · refine C.iconst d2_86 (v := 0) rfl (pc' := 87) rfl ?_
          refine C.istore d2_87 (ls' := #[.val (.long w), .second, .val (.int (3 : Int32)), .val (.ref o2), .val (.int (0 : Int32)), .unset, .unset, .unset]) rfl (pc' := 89) rfl ?_
          refine C.iload d2_89 rfl (pc' := 91) rfl ?_
          refine C.if_eq_T d2_91 (by decide) (by decide) (pc' := 98) rfl ?_
          refine C.iconst d2_98 (v := 0) rfl (pc' := 99) rfl ?_
          refine C.istore d2_99 (ls' := #[.val (.long w), .second, .val (.int (3 : Int32)), .val (.ref o2), .val (.int (0 : Int32)), .val (.int (0 : Int32)), .unset, .unset]) rfl (pc' := 101) rfl ?_
          refine C.iloadN d2_101 rfl (pc' := 102) rfl ?_
          refine C.iload d2_102 rfl (pc' := 104) rfl ?_
          refine C.isub d2_104 (pc' := 105) rfl ?_
          refine castI (show ((3 : Int32) - (0 : Int32)) = (3 : Int32) from by decide) ?_
          refine C.istore d2_105 (ls' := #[.val (.long w), .second, .val (.int (3 : Int32)), .val (.ref o2), .val (.int (0 : Int32)), .val (.int (0 : Int32)), .val (.int (3 : Int32)), .unset]) rfl (pc' := 107) rfl ?_
          refine C.iload d2_107 rfl (pc' := 109) rfl ?_
          refine C.iconst d2_109 (v := 3) rfl (pc' := 110) rfl ?_
          refine C.icmp_ne_F d2_110 rfl (pc' := 113) rfl ?_
          refine C.aloadN d2_113 rfl (pc' := 114) rfl ?_
          refine C.iload d2_114 rfl (pc' := 116) rfl ?_
          refine C.iaload V_o2 (i := 0) ⟨by decide, by decide⟩ (v := (.int (own_b0 w))) rfl d2_116 (pc' := 117) rfl ?_
          refine C.callSP (c_dig l Z a0 hw [] n0 h13 (own_b0 w)) (i1 := 22) (i2 := 23) (i3 := 9) (i4 := 24) rfl rfl rfl rfl (by decide) pd_0 rfl (argsL := [(.int (own_b0 w))]) rfl (rest := []) rfl rfl (W := 0) rfl (by decide) (by decide) (by decide) (by decide) d2_117 (pc' := 120) rfl (k' := 1) rfl (n' := 5) rfl ?_
          refine C.if_eq d2_120 (by decide) (pc1 := 146) rfl (pc2 := 123) rfl (fun q1 => ?_) (fun q1 => ?_)
          · refine C.ldcI (i := 11) rfl d2_146 (pc' := 148) rfl ?_
            exact C.ireturn d2_148 rfl (by decide) (by decide) (by simp [own_val, own_sh, own_lg, hn, b2i_f q1])
          · refine C.aloadN d2_123 rfl (pc' := 124) rfl ?_
            refine C.iload d2_124 rfl (pc' := 126) rfl ?_
            refine C.iconst d2_126 (v := 1) rfl (pc' := 127) rfl ?_
            refine C.iadd d2_127 (pc' := 128) rfl ?_
            refine castI (show ((0 : Int32) + (1 : Int32)) = (1 : Int32) from by decide) ?_
            refine C.iaload V_o2 (i := 1) ⟨by decide, by decide⟩ (v := (.int (own_b w 8))) rfl d2_128 (pc' := 129) rfl ?_
            refine C.bipush d2_129 (v := 46) rfl (pc' := 131) rfl ?_
            refine C.icmp_ne d2_131 (by decide) (pc1 := 146) rfl (pc2 := 134) rfl (fun q2 => ?_) (fun q2 => ?_)
            · refine C.ldcI (i := 11) rfl d2_146 (pc' := 148) rfl ?_
              exact C.ireturn d2_148 rfl (by decide) (by decide) (by simp [own_val, own_sh, own_lg, hn, q2])
            · refine C.aloadN d2_134 rfl (pc' := 135) rfl ?_
              refine C.iload d2_135 rfl (pc' := 137) rfl ?_
              refine C.iconst d2_137 (v := 2) rfl (pc' := 138) rfl ?_
              refine C.iadd d2_138 (pc' := 139) rfl ?_
              refine castI (show ((0 : Int32) + (2 : Int32)) = (2 : Int32) from by decide) ?_
              refine C.iaload V_o2 (i := 2) ⟨by decide, by decide⟩ (v := (.int (own_b w 16))) rfl d2_139 (pc' := 140) rfl ?_
              refine C.callSP (c_dig l Z a0 hw [] n0 h13 (own_b w 16)) (i1 := 22) (i2 := 23) (i3 := 9) (i4 := 24) rfl rfl rfl rfl (by decide) pd_0 rfl (argsL := [(.int (own_b w 16))]) rfl (rest := []) rfl rfl (W := 0) rfl (by decide) (by decide) (by decide) (by decide) d2_140 (pc' := 143) rfl (k' := 1) rfl (n' := 5) rfl ?_
              refine C.if_ne d2_143 (by decide) (pc1 := 149) rfl (pc2 := 146) rfl (fun q3 => ?_) (fun q3 => ?_)
              · refine C.aloadN d2_149 rfl (pc' := 150) rfl ?_
                refine C.iload d2_150 rfl (pc' := 152) rfl ?_
                refine C.iaload V_o2 (i := 0) ⟨by decide, by decide⟩ (v := (.int (own_b0 w))) rfl d2_152 (pc' := 153) rfl ?_
                refine C.bipush d2_153 (v := 48) rfl (pc' := 155) rfl ?_
                refine C.isub d2_155 (pc' := 156) rfl ?_
                refine C.bipush d2_156 (v := 10) rfl (pc' := 158) rfl ?_
                refine C.imul d2_158 (pc' := 159) rfl ?_
                refine C.aloadN d2_159 rfl (pc' := 160) rfl ?_
                refine C.iload d2_160 rfl (pc' := 162) rfl ?_
                refine C.iconst d2_162 (v := 2) rfl (pc' := 163) rfl ?_
                refine C.iadd d2_163 (pc' := 164) rfl ?_
                refine castI (show ((0 : Int32) + (2 : Int32)) = (2 : Int32) from by decide) ?_
                refine C.iaload V_o2 (i := 2) ⟨by decide, by decide⟩ (v := (.int (own_b w 16))) rfl d2_164 (pc' := 165) rfl ?_
                refine C.bipush d2_165 (v := 48) rfl (pc' := 167) rfl ?_
                refine C.isub d2_167 (pc' := 168) rfl ?_
                refine C.iadd d2_168 (pc' := 169) rfl ?_
                refine C.istore d2_169 (ls' := #[.val (.long w), .second, .val (.int (3 : Int32)), .val (.ref o2), .val (.int (0 : Int32)), .val (.int (0 : Int32)), .val (.int (3 : Int32)), .val (.int ((((own_b0 w) - (48 : Int32)) * (10 : Int32)) + ((own_b w 16) - (48 : Int32))))]) rfl (pc' := 171) rfl ?_
                refine C.goto d2_171 (by decide) (pc' := 269) rfl ?_
                refine C.iload d2_269 rfl (pc' := 271) rfl ?_
                refine C.if_eq_T d2_271 (by decide) (by decide) (pc' := 280) rfl ?_
                refine C.iload d2_280 rfl (pc' := 282) rfl ?_
                exact C.ireturn d2_282 rfl (by decide) (by decide) (by simp [own_val, own_sh, own_lg, hn, b2i_t q1, q2, b2i_t q3])
              · refine C.ldcI (i := 11) rfl d2_146 (pc' := 148) rfl ?_
                exact C.ireturn d2_148 rfl (by decide) (by decide) (by simp [own_val, own_sh, own_lg, hn, b2i_f q3])
        · refine C.iconst d2_82 (v := 1) rfl (pc' := 83) rfl ?_
          refine C.goto d2_83 (by decide) (pc' := 87) rfl ?_
          refine C.istore d2_87 (ls' := #[.val (.long w), .second, .val (.int (3 : Int32)), .val (.ref o2), .val (.int (1 : Int32)), .unset, .unset, .unset]) rfl (pc' := 89) rfl ?_
          refine C.iload d2_89 rfl (pc' := 91) rfl ?_
          refine C.if_eq_F d2_91 (by decide) (pc' := 94) rfl ?_
          refine C.iconst d2_94 (v := 1) rfl (pc' := 95) rfl ?_
          refine C.goto d2_95 (by decide) (pc' := 99) rfl ?_
          refine C.istore d2_99 (ls' := #[.val (.long w), .second, .val (.int (3 : Int32)), .val (.ref o2), .val (.int (1 : Int32)), .val (.int (1 : Int32)), .unset, .unset]) rfl (pc' := 101) rfl ?_
          refine C.iloadN d2_101 rfl (pc' := 102) rfl ?_
          refine C.iload d2_102 rfl (pc' := 104) rfl ?_
          refine C.isub d2_104 (pc' := 105) rfl ?_
          refine castI (show ((3 : Int32) - (1 : Int32)) = (2 : Int32) from by decide) ?_
          refine C.istore d2_105 (ls' := #[.val (.long w), .second, .val (.int (3 : Int32)), .val (.ref o2), .val (.int (1 : Int32)), .val (.int (1 : Int32)), .val (.int (2 : Int32)), .unset]) rfl (pc' := 107) rfl ?_
          refine C.iload d2_107 rfl (pc' := 109) rfl ?_
          refine C.iconst d2_109 (v := 3) rfl (pc' := 110) rfl ?_
          refine C.icmp_ne_T d2_110 (by decide) (by decide) (pc' := 174) rfl ?_
          refine C.iload d2_174 rfl (pc' := 176) rfl ?_
          refine C.iconst d2_176 (v := 4) rfl (pc' := 177) rfl ?_
          refine C.icmp_ne_T d2_177 (by decide) (by decide) (pc' := 266) rfl ?_
          refine C.ldcI (i := 11) rfl d2_266 (pc' := 268) rfl ?_
          exact C.ireturn d2_268 rfl (by decide) (by decide) (by simp [own_val, own_sh, own_lg, hn])
      · refine C.iconst d2_13 (v := 5) rfl (pc' := 14) rfl ?_
        refine C.newarray (w := 21) (ty := .int) rfl rfl (N := 5) ⟨by decide, by decide⟩ (d := (.int (0 : Int32))) rfl (vs := [(.int (0 : Int32)), (.int (0 : Int32)), (.int (0 : Int32)), (.int (0 : Int32)), (.int (0 : Int32))]) rfl (cap := 5) (by decide) (by decide) (by decide) (by decide) d2_14 (pc' := 16) rfl ?_
        intro h15 o16 q17 E18 V_o16
        have g_o16 : n0 ≤ o16 := Nat.le_trans hz (Nat.le_of_eq q17.symm)
        have hz := Nat.le_trans hz E18.1
        refine C.astoreN d2_16 (ls' := #[.val (.long w), .second, .val (.int (4 : Int32)), .val (.ref o16), .unset, .unset, .unset, .unset]) rfl (pc' := 17) rfl ?_
        refine C.aloadN d2_17 rfl (pc' := 18) rfl ?_
        refine C.iconst d2_18 (v := 0) rfl (pc' := 19) rfl ?_
        refine C.lloadN d2_19 rfl (pc' := 20) rfl ?_
        refine C.ldcJ (i := 13) rfl d2_20 (pc' := 23) rfl ?_
        refine C.land d2_23 (pc' := 24) rfl ?_
        refine C.l2i d2_24 (pc' := 25) rfl ?_
        refine castI (show ((w &&& (255 : Int64))).toInt32 = (own_b0 w) from rfl) ?_
        refine C.iastore V_o16 (i := 0) ⟨by decide, by decide⟩ (by simp) (vs' := [(.int (own_b0 w)), (.int (0 : Int32)), (.int (0 : Int32)), (.int (0 : Int32)), (.int (0 : Int32))]) rfl g_o16 d2_25 (pc' := 26) rfl ?_
        intro h19 W20 V_o16
        have hz : n0 ≤ _ := Nat.le_trans hz (Nat.le_of_eq W20.size.symm)
        refine C.aloadN d2_26 rfl (pc' := 27) rfl ?_
        refine C.iconst d2_27 (v := 1) rfl (pc' := 28) rfl ?_
        refine C.lloadN d2_28 rfl (pc' := 29) rfl ?_
        refine C.bipush d2_29 (v := 8) rfl (pc' := 31) rfl ?_
        refine C.lushr d2_31 (pc' := 32) rfl ?_
        refine C.ldcJ (i := 13) rfl d2_32 (pc' := 35) rfl ?_
        refine C.land d2_35 (pc' := 36) rfl ?_
        refine C.l2i d2_36 (pc' := 37) rfl ?_
        refine castI (show (((XT.ushrL w (8 : Int32)) &&& (255 : Int64))).toInt32 = (own_b w 8) from rfl) ?_
        refine C.iastore V_o16 (i := 1) ⟨by decide, by decide⟩ (by simp) (vs' := [(.int (own_b0 w)), (.int (own_b w 8)), (.int (0 : Int32)), (.int (0 : Int32)), (.int (0 : Int32))]) rfl g_o16 d2_37 (pc' := 38) rfl ?_
        intro h21 W22 V_o16
        have hz : n0 ≤ _ := Nat.le_trans hz (Nat.le_of_eq W22.size.symm)
        refine C.aloadN d2_38 rfl (pc' := 39) rfl ?_
        refine C.iconst d2_39 (v := 2) rfl (pc' := 40) rfl ?_
        refine C.lloadN d2_40 rfl (pc' := 41) rfl ?_
        refine C.bipush d2_41 (v := 16) rfl (pc' := 43) rfl ?_
        refine C.lushr d2_43 (pc' := 44) rfl ?_
        refine C.ldcJ (i := 13) rfl d2_44 (pc' := 47) rfl ?_
        refine C.land d2_47 (pc' := 48) rfl ?_
        refine C.l2i d2_48 (pc' := 49) rfl ?_
        refine castI (show (((XT.ushrL w (16 : Int32)) &&& (255 : Int64))).toInt32 = (own_b w 16) from rfl) ?_
        refine C.iastore V_o16 (i := 2) ⟨by decide, by decide⟩ (by simp) (vs' := [(.int (own_b0 w)), (.int (own_b w 8)), (.int (own_b w 16)), (.int (0 : Int32)), (.int (0 : Int32))]) rfl g_o16 d2_49 (pc' := 50) rfl ?_
        intro h23 W24 V_o16
        have hz : n0 ≤ _ := Nat.le_trans hz (Nat.le_of_eq W24.size.symm)
        refine C.aloadN d2_50 rfl (pc' := 51) rfl ?_
        refine C.iconst d2_51 (v := 3) rfl (pc' := 52) rfl ?_
        refine C.lloadN d2_52 rfl (pc' := 53) rfl ?_
        refine C.bipush d2_53 (v := 24) rfl (pc' := 55) rfl ?_
        refine C.lushr d2_55 (pc' := 56) rfl ?_
        refine C.ldcJ (i := 13) rfl d2_56 (pc' := 59) rfl ?_
        refine C.land d2_59 (pc' := 60) rfl ?_
        refine C.l2i d2_60 (pc' := 61) rfl ?_
        refine castI (show (((XT.ushrL w (24 : Int32)) &&& (255 : Int64))).toInt32 = (own_b w 24) from rfl) ?_
        refine C.iastore V_o16 (i := 3) ⟨by decide, by decide⟩ (by simp) (vs' := [(.int (own_b0 w)), (.int (own_b w 8)), (.int (own_b w 16)), (.int (own_b w 24)), (.int (0 : Int32))]) rfl g_o16 d2_61 (pc' := 62) rfl ?_
        intro h25 W26 V_o16
        have hz : n0 ≤ _ := Nat.le_trans hz (Nat.le_of_eq W26.size.symm)
        refine C.aloadN d2_62 rfl (pc' := 63) rfl ?_
        refine C.iconst d2_63 (v := 4) rfl (pc' := 64) rfl ?_
        refine C.lloadN d2_64 rfl (pc' := 65) rfl ?_
        refine C.bipush d2_65 (v := 32) rfl (pc' := 67) rfl ?_
        refine C.lushr d2_67 (pc' := 68) rfl ?_
        refine C.ldcJ (i := 13) rfl d2_68 (pc' := 71) rfl ?_
        refine C.land d2_71 (pc' := 72) rfl ?_
        refine C.l2i d2_72 (pc' := 73) rfl ?_
        refine castI (show (((XT.ushrL w (32 : Int32)) &&& (255 : Int64))).toInt32 = (own_b w 32) from rfl) ?_
        refine C.iastore V_o16 (i := 4) ⟨by decide, by decide⟩ (by simp) (vs' := [(.int (own_b0 w)), (.int (own_b w 8)), (.int (own_b w 16)), (.int (own_b w 24)), (.int (own_b w 32))]) rfl g_o16 d2_73 (pc' := 74) rfl ?_
        intro h27 W28 V_o16
        have hz : n0 ≤ _ := Nat.le_trans hz (Nat.le_of_eq W28.size.symm)
        refine C.aloadN d2_74 rfl (pc' := 75) rfl ?_
        refine C.iconst d2_75 (v := 0) rfl (pc' := 76) rfl ?_
        refine C.iaload V_o16 (i := 0) ⟨by decide, by decide⟩ (v := (.int (own_b0 w))) rfl d2_76 (pc' := 77) rfl ?_
        refine C.bipush d2_77 (v := 45) rfl (pc' := 79) rfl ?_
        refine C.icmp_ne d2_79 (by decide) (pc1 := 86) rfl (pc2 := 82) rfl (fun hn => ?_) (fun hn => ?_)
        · refine C.iconst d2_86 (v := 0) rfl (pc' := 87) rfl ?_
          refine C.istore d2_87 (ls' := #[.val (.long w), .second, .val (.int (4 : Int32)), .val (.ref o16), .val (.int (0 : Int32)), .unset, .unset, .unset]) rfl (pc' := 89) rfl ?_
          refine C.iload d2_89 rfl (pc' := 91) rfl ?_
          refine C.if_eq_T d2_91 (by decide) (by decide) (pc' := 98) rfl ?_
          refine C.iconst d2_98 (v := 0) rfl (pc' := 99) rfl ?_
          refine C.istore d2_99 (ls' := #[.val (.long w), .second, .val (.int (4 : Int32)), .val (.ref o16), .val (.int (0 : Int32)), .val (.int (0 : Int32)), .unset, .unset]) rfl (pc' := 101) rfl ?_
          refine C.iloadN d2_101 rfl (pc' := 102) rfl ?_
          refine C.iload d2_102 rfl (pc' := 104) rfl ?_
          refine C.isub d2_104 (pc' := 105) rfl ?_
          refine castI (show ((4 : Int32) - (0 : Int32)) = (4 : Int32) from by decide) ?_
          refine C.istore d2_105 (ls' := #[.val (.long w), .second, .val (.int (4 : Int32)), .val (.ref o16), .val (.int (0 : Int32)), .val (.int (0 : Int32)), .val (.int (4 : Int32)), .unset]) rfl (pc' := 107) rfl ?_
          refine C.iload d2_107 rfl (pc' := 109) rfl ?_
          refine C.iconst d2_109 (v := 3) rfl (pc' := 110) rfl ?_
          refine C.icmp_ne_T d2_110 (by decide) (by decide) (pc' := 174) rfl ?_
          refine C.iload d2_174 rfl (pc' := 176) rfl ?_
          refine C.iconst d2_176 (v := 4) rfl (pc' := 177) rfl ?_
          refine C.icmp_ne_F d2_177 rfl (pc' := 180) rfl ?_
          refine C.aloadN d2_180 rfl (pc' := 181) rfl ?_
          refine C.iload d2_181 rfl (pc' := 183) rfl ?_
          refine C.iaload V_o16 (i := 0) ⟨by decide, by decide⟩ (v := (.int (own_b0 w))) rfl d2_183 (pc' := 184) rfl ?_
          refine C.callSP (c_dig l Z a0 hw [] n0 h27 (own_b0 w)) (i1 := 22) (i2 := 23) (i3 := 9) (i4 := 24) rfl rfl rfl rfl (by decide) pd_0 rfl (argsL := [(.int (own_b0 w))]) rfl (rest := []) rfl rfl (W := 0) rfl (by decide) (by decide) (by decide) (by decide) d2_184 (pc' := 187) rfl (k' := 1) rfl (n' := 5) rfl ?_
          refine C.if_eq d2_187 (by decide) (pc1 := 225) rfl (pc2 := 190) rfl (fun q1 => ?_) (fun q1 => ?_)
          · refine C.ldcI (i := 11) rfl d2_225 (pc' := 227) rfl ?_
            exact C.ireturn d2_227 rfl (by decide) (by decide) (by simp [own_val, own_sh, own_lg, hn, b2i_f q1])
          · refine C.aloadN d2_190 rfl (pc' := 191) rfl ?_
            refine C.iload d2_191 rfl (pc' := 193) rfl ?_
            refine C.iconst d2_193 (v := 1) rfl (pc' := 194) rfl ?_
            refine C.iadd d2_194 (pc' := 195) rfl ?_
            refine castI (show ((0 : Int32) + (1 : Int32)) = (1 : Int32) from by decide) ?_
            refine C.iaload V_o16 (i := 1) ⟨by decide, by decide⟩ (v := (.int (own_b w 8))) rfl d2_195 (pc' := 196) rfl ?_
            refine C.callSP (c_dig l Z a0 hw [] n0 h27 (own_b w 8)) (i1 := 22) (i2 := 23) (i3 := 9) (i4 := 24) rfl rfl rfl rfl (by decide) pd_0 rfl (argsL := [(.int (own_b w 8))]) rfl (rest := []) rfl rfl (W := 0) rfl (by decide) (by decide) (by decide) (by decide) d2_196 (pc' := 199) rfl (k' := 1) rfl (n' := 5) rfl ?_
            refine C.if_eq d2_199 (by decide) (pc1 := 225) rfl (pc2 := 202) rfl (fun q2 => ?_) (fun q2 => ?_)
            · refine C.ldcI (i := 11) rfl d2_225 (pc' := 227) rfl ?_
              exact C.ireturn d2_227 rfl (by decide) (by decide) (by simp [own_val, own_sh, own_lg, hn, b2i_f q2])
            · refine C.aloadN d2_202 rfl (pc' := 203) rfl ?_
              refine C.iload d2_203 rfl (pc' := 205) rfl ?_
              refine C.iconst d2_205 (v := 2) rfl (pc' := 206) rfl ?_
              refine C.iadd d2_206 (pc' := 207) rfl ?_
              refine castI (show ((0 : Int32) + (2 : Int32)) = (2 : Int32) from by decide) ?_
              refine C.iaload V_o16 (i := 2) ⟨by decide, by decide⟩ (v := (.int (own_b w 16))) rfl d2_207 (pc' := 208) rfl ?_
              refine C.bipush d2_208 (v := 46) rfl (pc' := 210) rfl ?_
              refine C.icmp_ne d2_210 (by decide) (pc1 := 225) rfl (pc2 := 213) rfl (fun q3 => ?_) (fun q3 => ?_)
              · refine C.ldcI (i := 11) rfl d2_225 (pc' := 227) rfl ?_
                exact C.ireturn d2_227 rfl (by decide) (by decide) (by simp [own_val, own_sh, own_lg, hn, q3])
              · refine C.aloadN d2_213 rfl (pc' := 214) rfl ?_
                refine C.iload d2_214 rfl (pc' := 216) rfl ?_
                refine C.iconst d2_216 (v := 3) rfl (pc' := 217) rfl ?_
                refine C.iadd d2_217 (pc' := 218) rfl ?_
                refine castI (show ((0 : Int32) + (3 : Int32)) = (3 : Int32) from by decide) ?_
                refine C.iaload V_o16 (i := 3) ⟨by decide, by decide⟩ (v := (.int (own_b w 24))) rfl d2_218 (pc' := 219) rfl ?_
                refine C.callSP (c_dig l Z a0 hw [] n0 h27 (own_b w 24)) (i1 := 22) (i2 := 23) (i3 := 9) (i4 := 24) rfl rfl rfl rfl (by decide) pd_0 rfl (argsL := [(.int (own_b w 24))]) rfl (rest := []) rfl rfl (W := 0) rfl (by decide) (by decide) (by decide) (by decide) d2_219 (pc' := 222) rfl (k' := 1) rfl (n' := 5) rfl ?_
                refine C.if_ne d2_222 (by decide) (pc1 := 228) rfl (pc2 := 225) rfl (fun q4 => ?_) (fun q4 => ?_)
                · refine C.aloadN d2_228 rfl (pc' := 229) rfl ?_
                  refine C.iload d2_229 rfl (pc' := 231) rfl ?_
                  refine C.iaload V_o16 (i := 0) ⟨by decide, by decide⟩ (v := (.int (own_b0 w))) rfl d2_231 (pc' := 232) rfl ?_
                  refine C.bipush d2_232 (v := 48) rfl (pc' := 234) rfl ?_
                  refine C.isub d2_234 (pc' := 235) rfl ?_
                  refine C.bipush d2_235 (v := 100) rfl (pc' := 237) rfl ?_
                  refine C.imul d2_237 (pc' := 238) rfl ?_
                  refine C.aloadN d2_238 rfl (pc' := 239) rfl ?_
                  refine C.iload d2_239 rfl (pc' := 241) rfl ?_
                  refine C.iconst d2_241 (v := 1) rfl (pc' := 242) rfl ?_
                  refine C.iadd d2_242 (pc' := 243) rfl ?_
                  refine castI (show ((0 : Int32) + (1 : Int32)) = (1 : Int32) from by decide) ?_
                  refine C.iaload V_o16 (i := 1) ⟨by decide, by decide⟩ (v := (.int (own_b w 8))) rfl d2_243 (pc' := 244) rfl ?_
                  refine C.bipush d2_244 (v := 48) rfl (pc' := 246) rfl ?_
                  refine C.isub d2_246 (pc' := 247) rfl ?_
                  refine C.bipush d2_247 (v := 10) rfl (pc' := 249) rfl ?_
                  refine C.imul d2_249 (pc' := 250) rfl ?_
                  refine C.iadd d2_250 (pc' := 251) rfl ?_
                  refine C.aloadN d2_251 rfl (pc' := 252) rfl ?_
                  refine C.iload d2_252 rfl (pc' := 254) rfl ?_
                  refine C.iconst d2_254 (v := 3) rfl (pc' := 255) rfl ?_
                  refine C.iadd d2_255 (pc' := 256) rfl ?_
                  refine castI (show ((0 : Int32) + (3 : Int32)) = (3 : Int32) from by decide) ?_
                  refine C.iaload V_o16 (i := 3) ⟨by decide, by decide⟩ (v := (.int (own_b w 24))) rfl d2_256 (pc' := 257) rfl ?_
                  refine C.bipush d2_257 (v := 48) rfl (pc' := 259) rfl ?_
                  refine C.isub d2_259 (pc' := 260) rfl ?_
                  refine C.iadd d2_260 (pc' := 261) rfl ?_
                  refine C.istore d2_261 (ls' := #[.val (.long w), .second, .val (.int (4 : Int32)), .val (.ref o16), .val (.int (0 : Int32)), .val (.int (0 : Int32)), .val (.int (4 : Int32)), .val (.int (((((own_b0 w) - (48 : Int32)) * (100 : Int32)) + (((own_b w 8) - (48 : Int32)) * (10 : Int32))) + ((own_b w 24) - (48 : Int32))))]) rfl (pc' := 263) rfl ?_
                  refine C.goto d2_263 (by decide) (pc' := 269) rfl ?_
                  refine C.iload d2_269 rfl (pc' := 271) rfl ?_
                  refine C.if_eq_T d2_271 (by decide) (by decide) (pc' := 280) rfl ?_
                  refine C.iload d2_280 rfl (pc' := 282) rfl ?_
                  exact C.ireturn d2_282 rfl (by decide) (by decide) (by simp [own_val, own_sh, own_lg, hn, b2i_t q1, b2i_t q2, q3, b2i_t q4])
                · refine C.ldcI (i := 11) rfl d2_225 (pc' := 227) rfl ?_
                  exact C.ireturn d2_227 rfl (by decide) (by decide) (by simp [own_val, own_sh, own_lg, hn, b2i_f q4])
        · refine C.iconst d2_82 (v := 1) rfl (pc' := 83) rfl ?_
          refine C.goto d2_83 (by decide) (pc' := 87) rfl ?_
          refine C.istore d2_87 (ls' := #[.val (.long w), .second, .val (.int (4 : Int32)), .val (.ref o16), .val (.int (1 : Int32)), .unset, .unset, .unset]) rfl (pc' := 89) rfl ?_
          refine C.iload d2_89 rfl (pc' := 91) rfl ?_
          refine C.if_eq_F d2_91 (by decide) (pc' := 94) rfl ?_
          refine C.iconst d2_94 (v := 1) rfl (pc' := 95) rfl ?_
          refine C.goto d2_95 (by decide) (pc' := 99) rfl ?_
          refine C.istore d2_99 (ls' := #[.val (.long w), .second, .val (.int (4 : Int32)), .val (.ref o16), .val (.int (1 : Int32)), .val (.int (1 : Int32)), .unset, .unset]) rfl (pc' := 101) rfl ?_
          refine C.iloadN d2_101 rfl (pc' := 102) rfl ?_
          refine C.iload d2_102 rfl (pc' := 104) rfl ?_
          refine C.isub d2_104 (pc' := 105) rfl ?_
          refine castI (show ((4 : Int32) - (1 : Int32)) = (3 : Int32) from by decide) ?_
          refine C.istore d2_105 (ls' := #[.val (.long w), .second, .val (.int (4 : Int32)), .val (.ref o16), .val (.int (1 : Int32)), .val (.int (1 : Int32)), .val (.int (3 : Int32)), .unset]) rfl (pc' := 107) rfl ?_
          refine C.iload d2_107 rfl (pc' := 109) rfl ?_
          refine C.iconst d2_109 (v := 3) rfl (pc' := 110) rfl ?_
          refine C.icmp_ne_F d2_110 rfl (pc' := 113) rfl ?_
          refine C.aloadN d2_113 rfl (pc' := 114) rfl ?_
          refine C.iload d2_114 rfl (pc' := 116) rfl ?_
          refine C.iaload V_o16 (i := 1) ⟨by decide, by decide⟩ (v := (.int (own_b w 8))) rfl d2_116 (pc' := 117) rfl ?_
          refine C.callSP (c_dig l Z a0 hw [] n0 h27 (own_b w 8)) (i1 := 22) (i2 := 23) (i3 := 9) (i4 := 24) rfl rfl rfl rfl (by decide) pd_0 rfl (argsL := [(.int (own_b w 8))]) rfl (rest := []) rfl rfl (W := 0) rfl (by decide) (by decide) (by decide) (by decide) d2_117 (pc' := 120) rfl (k' := 1) rfl (n' := 5) rfl ?_
          refine C.if_eq d2_120 (by decide) (pc1 := 146) rfl (pc2 := 123) rfl (fun q1 => ?_) (fun q1 => ?_)
          · refine C.ldcI (i := 11) rfl d2_146 (pc' := 148) rfl ?_
            exact C.ireturn d2_148 rfl (by decide) (by decide) (by simp [own_val, own_sh, own_lg, hn, b2i_f q1])
          · refine C.aloadN d2_123 rfl (pc' := 124) rfl ?_
            refine C.iload d2_124 rfl (pc' := 126) rfl ?_
            refine C.iconst d2_126 (v := 1) rfl (pc' := 127) rfl ?_
            refine C.iadd d2_127 (pc' := 128) rfl ?_
            refine castI (show ((1 : Int32) + (1 : Int32)) = (2 : Int32) from by decide) ?_
            refine C.iaload V_o16 (i := 2) ⟨by decide, by decide⟩ (v := (.int (own_b w 16))) rfl d2_128 (pc' := 129) rfl ?_
            refine C.bipush d2_129 (v := 46) rfl (pc' := 131) rfl ?_
            refine C.icmp_ne d2_131 (by decide) (pc1 := 146) rfl (pc2 := 134) rfl (fun q2 => ?_) (fun q2 => ?_)
            · refine C.ldcI (i := 11) rfl d2_146 (pc' := 148) rfl ?_
              exact C.ireturn d2_148 rfl (by decide) (by decide) (by simp [own_val, own_sh, own_lg, hn, q2])
            · refine C.aloadN d2_134 rfl (pc' := 135) rfl ?_
              refine C.iload d2_135 rfl (pc' := 137) rfl ?_
              refine C.iconst d2_137 (v := 2) rfl (pc' := 138) rfl ?_
              refine C.iadd d2_138 (pc' := 139) rfl ?_
              refine castI (show ((1 : Int32) + (2 : Int32)) = (3 : Int32) from by decide) ?_
              refine C.iaload V_o16 (i := 3) ⟨by decide, by decide⟩ (v := (.int (own_b w 24))) rfl d2_139 (pc' := 140) rfl ?_
              refine C.callSP (c_dig l Z a0 hw [] n0 h27 (own_b w 24)) (i1 := 22) (i2 := 23) (i3 := 9) (i4 := 24) rfl rfl rfl rfl (by decide) pd_0 rfl (argsL := [(.int (own_b w 24))]) rfl (rest := []) rfl rfl (W := 0) rfl (by decide) (by decide) (by decide) (by decide) d2_140 (pc' := 143) rfl (k' := 1) rfl (n' := 5) rfl ?_
              refine C.if_ne d2_143 (by decide) (pc1 := 149) rfl (pc2 := 146) rfl (fun q3 => ?_) (fun q3 => ?_)
              · refine C.aloadN d2_149 rfl (pc' := 150) rfl ?_
                refine C.iload d2_150 rfl (pc' := 152) rfl ?_
                refine C.iaload V_o16 (i := 1) ⟨by decide, by decide⟩ (v := (.int (own_b w 8))) rfl d2_152 (pc' := 153) rfl ?_
                refine C.bipush d2_153 (v := 48) rfl (pc' := 155) rfl ?_
                refine C.isub d2_155 (pc' := 156) rfl ?_
                refine C.bipush d2_156 (v := 10) rfl (pc' := 158) rfl ?_
                refine C.imul d2_158 (pc' := 159) rfl ?_
                refine C.aloadN d2_159 rfl (pc' := 160) rfl ?_
                refine C.iload d2_160 rfl (pc' := 162) rfl ?_
                refine C.iconst d2_162 (v := 2) rfl (pc' := 163) rfl ?_
                refine C.iadd d2_163 (pc' := 164) rfl ?_
                refine castI (show ((1 : Int32) + (2 : Int32)) = (3 : Int32) from by decide) ?_
                refine C.iaload V_o16 (i := 3) ⟨by decide, by decide⟩ (v := (.int (own_b w 24))) rfl d2_164 (pc' := 165) rfl ?_
                refine C.bipush d2_165 (v := 48) rfl (pc' := 167) rfl ?_
                refine C.isub d2_167 (pc' := 168) rfl ?_
                refine C.iadd d2_168 (pc' := 169) rfl ?_
                refine C.istore d2_169 (ls' := #[.val (.long w), .second, .val (.int (4 : Int32)), .val (.ref o16), .val (.int (1 : Int32)), .val (.int (1 : Int32)), .val (.int (3 : Int32)), .val (.int ((((own_b w 8) - (48 : Int32)) * (10 : Int32)) + ((own_b w 24) - (48 : Int32))))]) rfl (pc' := 171) rfl ?_
                refine C.goto d2_171 (by decide) (pc' := 269) rfl ?_
                refine C.iload d2_269 rfl (pc' := 271) rfl ?_
                refine C.if_eq_F d2_271 (by decide) (pc' := 274) rfl ?_
                refine C.iload d2_274 rfl (pc' := 276) rfl ?_
                refine C.ineg d2_276 (pc' := 277) rfl ?_
                refine C.goto d2_277 (by decide) (pc' := 282) rfl ?_
                exact C.ireturn d2_282 rfl (by decide) (by decide) (by simp [own_val, own_sh, own_lg, hn, b2i_t q1, q2, b2i_t q3])
              · refine C.ldcI (i := 11) rfl d2_146 (pc' := 148) rfl ?_
                exact C.ireturn d2_148 rfl (by decide) (by decide) (by simp [own_val, own_sh, own_lg, hn, b2i_f q3])
      · refine C.iconst d2_13 (v := 5) rfl (pc' := 14) rfl ?_
        refine C.newarray (w := 21) (ty := .int) rfl rfl (N := 5) ⟨by decide, by decide⟩ (d := (.int (0 : Int32))) rfl (vs := [(.int (0 : Int32)), (.int (0 : Int32)), (.int (0 : Int32)), (.int (0 : Int32)), (.int (0 : Int32))]) rfl (cap := 5) (by decide) (by decide) (by decide) (by decide) d2_14 (pc' := 16) rfl ?_
        intro h29 o30 q31 E32 V_o30
        have g_o30 : n0 ≤ o30 := Nat.le_trans hz (Nat.le_of_eq q31.symm)
        have hz := Nat.le_trans hz E32.1
        refine C.astoreN d2_16 (ls' := #[.val (.long w), .second, .val (.int (5 : Int32)), .val (.ref o30), .unset, .unset, .unset, .unset]) rfl (pc' := 17) rfl ?_
        refine C.aloadN d2_17 rfl (pc' := 18) rfl ?_
        refine C.iconst d2_18 (v := 0) rfl (pc' := 19) rfl ?_
        refine C.lloadN d2_19 rfl (pc' := 20) rfl ?_
        refine C.ldcJ (i := 13) rfl d2_20 (pc' := 23) rfl ?_
        refine C.land d2_23 (pc' := 24) rfl ?_
        refine C.l2i d2_24 (pc' := 25) rfl ?_
        refine castI (show ((w &&& (255 : Int64))).toInt32 = (own_b0 w) from rfl) ?_
        refine C.iastore V_o30 (i := 0) ⟨by decide, by decide⟩ (by simp) (vs' := [(.int (own_b0 w)), (.int (0 : Int32)), (.int (0 : Int32)), (.int (0 : Int32)), (.int (0 : Int32))]) rfl g_o30 d2_25 (pc' := 26) rfl ?_
        intro h33 W34 V_o30
        have hz : n0 ≤ _ := Nat.le_trans hz (Nat.le_of_eq W34.size.symm)
        refine C.aloadN d2_26 rfl (pc' := 27) rfl ?_
        refine C.iconst d2_27 (v := 1) rfl (pc' := 28) rfl ?_
        refine C.lloadN d2_28 rfl (pc' := 29) rfl ?_
        refine C.bipush d2_29 (v := 8) rfl (pc' := 31) rfl ?_
        refine C.lushr d2_31 (pc' := 32) rfl ?_
        refine C.ldcJ (i := 13) rfl d2_32 (pc' := 35) rfl ?_
        refine C.land d2_35 (pc' := 36) rfl ?_
        refine C.l2i d2_36 (pc' := 37) rfl ?_
        refine castI (show (((XT.ushrL w (8 : Int32)) &&& (255 : Int64))).toInt32 = (own_b w 8) from rfl) ?_
        refine C.iastore V_o30 (i := 1) ⟨by decide, by decide⟩ (by simp) (vs' := [(.int (own_b0 w)), (.int (own_b w 8)), (.int (0 : Int32)), (.int (0 : Int32)), (.int (0 : Int32))]) rfl g_o30 d2_37 (pc' := 38) rfl ?_
        intro h35 W36 V_o30
        have hz : n0 ≤ _ := Nat.le_trans hz (Nat.le_of_eq W36.size.symm)
        refine C.aloadN d2_38 rfl (pc' := 39) rfl ?_
        refine C.iconst d2_39 (v := 2) rfl (pc' := 40) rfl ?_
        refine C.lloadN d2_40 rfl (pc' := 41) rfl ?_
        refine C.bipush d2_41 (v := 16) rfl (pc' := 43) rfl ?_
        refine C.lushr d2_43 (pc' := 44) rfl ?_
        refine C.ldcJ (i := 13) rfl d2_44 (pc' := 47) rfl ?_
        refine C.land d2_47 (pc' := 48) rfl ?_
        refine C.l2i d2_48 (pc' := 49) rfl ?_
        refine castI (show (((XT.ushrL w (16 : Int32)) &&& (255 : Int64))).toInt32 = (own_b w 16) from rfl) ?_
        refine C.iastore V_o30 (i := 2) ⟨by decide, by decide⟩ (by simp) (vs' := [(.int (own_b0 w)), (.int (own_b w 8)), (.int (own_b w 16)), (.int (0 : Int32)), (.int (0 : Int32))]) rfl g_o30 d2_49 (pc' := 50) rfl ?_
        intro h37 W38 V_o30
        have hz : n0 ≤ _ := Nat.le_trans hz (Nat.le_of_eq W38.size.symm)
        refine C.aloadN d2_50 rfl (pc' := 51) rfl ?_
        refine C.iconst d2_51 (v := 3) rfl (pc' := 52) rfl ?_
        refine C.lloadN d2_52 rfl (pc' := 53) rfl ?_
        refine C.bipush d2_53 (v := 24) rfl (pc' := 55) rfl ?_
        refine C.lushr d2_55 (pc' := 56) rfl ?_
        refine C.ldcJ (i := 13) rfl d2_56 (pc' := 59) rfl ?_
        refine C.land d2_59 (pc' := 60) rfl ?_
        refine C.l2i d2_60 (pc' := 61) rfl ?_
        refine castI (show (((XT.ushrL w (24 : Int32)) &&& (255 : Int64))).toInt32 = (own_b w 24) from rfl) ?_
        refine C.iastore V_o30 (i := 3) ⟨by decide, by decide⟩ (by simp) (vs' := [(.int (own_b0 w)), (.int (own_b w 8)), (.int (own_b w 16)), (.int (own_b w 24)), (.int (0 : Int32))]) rfl g_o30 d2_61 (pc' := 62) rfl ?_
        intro h39 W40 V_o30
        have hz : n0 ≤ _ := Nat.le_trans hz (Nat.le_of_eq W40.size.symm)
        refine C.aloadN d2_62 rfl (pc' := 63) rfl ?_
        refine C.iconst d2_63 (v := 4) rfl (pc' := 64) rfl ?_
        refine C.lloadN d2_64 rfl (pc' := 65) rfl ?_
        refine C.bipush d2_65 (v := 32) rfl (pc' := 67) rfl ?_
        refine C.lushr d2_67 (pc' := 68) rfl ?_
        refine C.ldcJ (i := 13) rfl d2_68 (pc' := 71) rfl ?_
        refine C.land d2_71 (pc' := 72) rfl ?_
        refine C.l2i d2_72 (pc' := 73) rfl ?_
        refine castI (show (((XT.ushrL w (32 : Int32)) &&& (255 : Int64))).toInt32 = (own_b w 32) from rfl) ?_
        refine C.iastore V_o30 (i := 4) ⟨by decide, by decide⟩ (by simp) (vs' := [(.int (own_b0 w)), (.int (own_b w 8)), (.int (own_b w 16)), (.int (own_b w 24)), (.int (own_b w 32))]) rfl g_o30 d2_73 (pc' := 74) rfl ?_
        intro h41 W42 V_o30
        have hz : n0 ≤ _ := Nat.le_trans hz (Nat.le_of_eq W42.size.symm)
        refine C.aloadN d2_74 rfl (pc' := 75) rfl ?_
        refine C.iconst d2_75 (v := 0) rfl (pc' := 76) rfl ?_
        refine C.iaload V_o30 (i := 0) ⟨by decide, by decide⟩ (v := (.int (own_b0 w))) rfl d2_76 (pc' := 77) rfl ?_
        refine C.bipush d2_77 (v := 45) rfl (pc' := 79) rfl ?_
        refine C.icmp_ne d2_79 (by decide) (pc1 := 86) rfl (pc2 := 82) rfl (fun hn => ?_) (fun hn => ?_)
        · refine C.iconst d2_86 (v := 0) rfl (pc' := 87) rfl ?_
          refine C.istore d2_87 (ls' := #[.val (.long w), .second, .val (.int (5 : Int32)), .val (.ref o30), .val (.int (0 : Int32)), .unset, .unset, .unset]) rfl (pc' := 89) rfl ?_
          refine C.iload d2_89 rfl (pc' := 91) rfl ?_
          refine C.if_eq_T d2_91 (by decide) (by decide) (pc' := 98) rfl ?_
          refine C.iconst d2_98 (v := 0) rfl (pc' := 99) rfl ?_
          refine C.istore d2_99 (ls' := #[.val (.long w), .second, .val (.int (5 : Int32)), .val (.ref o30), .val (.int (0 : Int32)), .val (.int (0 : Int32)), .unset, .unset]) rfl (pc' := 101) rfl ?_
          refine C.iloadN d2_101 rfl (pc' := 102) rfl ?_
          refine C.iload d2_102 rfl (pc' := 104) rfl ?_
          refine C.isub d2_104 (pc' := 105) rfl ?_
          refine castI (show ((5 : Int32) - (0 : Int32)) = (5 : Int32) from by decide) ?_
          refine C.istore d2_105 (ls' := #[.val (.long w), .second, .val (.int (5 : Int32)), .val (.ref o30), .val (.int (0 : Int32)), .val (.int (0 : Int32)), .val (.int (5 : Int32)), .unset]) rfl (pc' := 107) rfl ?_
          refine C.iload d2_107 rfl (pc' := 109) rfl ?_
          refine C.iconst d2_109 (v := 3) rfl (pc' := 110) rfl ?_
          refine C.icmp_ne_T d2_110 (by decide) (by decide) (pc' := 174) rfl ?_
          refine C.iload d2_174 rfl (pc' := 176) rfl ?_
          refine C.iconst d2_176 (v := 4) rfl (pc' := 177) rfl ?_
          refine C.icmp_ne_T d2_177 (by decide) (by decide) (pc' := 266) rfl ?_
          refine C.ldcI (i := 11) rfl d2_266 (pc' := 268) rfl ?_
          exact C.ireturn d2_268 rfl (by decide) (by decide) (by simp [own_val, own_sh, own_lg, hn])
        · refine C.iconst d2_82 (v := 1) rfl (pc' := 83) rfl ?_
          refine C.goto d2_83 (by decide) (pc' := 87) rfl ?_
          refine C.istore d2_87 (ls' := #[.val (.long w), .second, .val (.int (5 : Int32)), .val (.ref o30), .val (.int (1 : Int32)), .unset, .unset, .unset]) rfl (pc' := 89) rfl ?_
          refine C.iload d2_89 rfl (pc' := 91) rfl ?_
          refine C.if_eq_F d2_91 (by decide) (pc' := 94) rfl ?_
          refine C.iconst d2_94 (v := 1) rfl (pc' := 95) rfl ?_
          refine C.goto d2_95 (by decide) (pc' := 99) rfl ?_
          refine C.istore d2_99 (ls' := #[.val (.long w), .second, .val (.int (5 : Int32)), .val (.ref o30), .val (.int (1 : Int32)), .val (.int (1 : Int32)), .unset, .unset]) rfl (pc' := 101) rfl ?_
          refine C.iloadN d2_101 rfl (pc' := 102) rfl ?_
          refine C.iload d2_102 rfl (pc' := 104) rfl ?_
          refine C.isub d2_104 (pc' := 105) rfl ?_
          refine castI (show ((5 : Int32) - (1 : Int32)) = (4 : Int32) from by decide) ?_
          refine C.istore d2_105 (ls' := #[.val (.long w), .second, .val (.int (5 : Int32)), .val (.ref o30), .val (.int (1 : Int32)), .val (.int (1 : Int32)), .val (.int (4 : Int32)), .unset]) rfl (pc' := 107) rfl ?_
          refine C.iload d2_107 rfl (pc' := 109) rfl ?_
          refine C.iconst d2_109 (v := 3) rfl (pc' := 110) rfl ?_
          refine C.icmp_ne_T d2_110 (by decide) (by decide) (pc' := 174) rfl ?_
          refine C.iload d2_174 rfl (pc' := 176) rfl ?_
          refine C.iconst d2_176 (v := 4) rfl (pc' := 177) rfl ?_
          refine C.icmp_ne_F d2_177 rfl (pc' := 180) rfl ?_
          refine C.aloadN d2_180 rfl (pc' := 181) rfl ?_
          refine C.iload d2_181 rfl (pc' := 183) rfl ?_
          refine C.iaload V_o30 (i := 1) ⟨by decide, by decide⟩ (v := (.int (own_b w 8))) rfl d2_183 (pc' := 184) rfl ?_
          refine C.callSP (c_dig l Z a0 hw [] n0 h41 (own_b w 8)) (i1 := 22) (i2 := 23) (i3 := 9) (i4 := 24) rfl rfl rfl rfl (by decide) pd_0 rfl (argsL := [(.int (own_b w 8))]) rfl (rest := []) rfl rfl (W := 0) rfl (by decide) (by decide) (by decide) (by decide) d2_184 (pc' := 187) rfl (k' := 1) rfl (n' := 5) rfl ?_
          refine C.if_eq d2_187 (by decide) (pc1 := 225) rfl (pc2 := 190) rfl (fun q1 => ?_) (fun q1 => ?_)
          · refine C.ldcI (i := 11) rfl d2_225 (pc' := 227) rfl ?_
            exact C.ireturn d2_227 rfl (by decide) (by decide) (by simp [own_val, own_sh, own_lg, hn, b2i_f q1])
          · refine C.aloadN d2_190 rfl (pc' := 191) rfl ?_
            refine C.iload d2_191 rfl (pc' := 193) rfl ?_
            refine C.iconst d2_193 (v := 1) rfl (pc' := 194) rfl ?_
            refine C.iadd d2_194 (pc' := 195) rfl ?_
            refine castI (show ((1 : Int32) + (1 : Int32)) = (2 : Int32) from by decide) ?_
            refine C.iaload V_o30 (i := 2) ⟨by decide, by decide⟩ (v := (.int (own_b w 16))) rfl d2_195 (pc' := 196) rfl ?_
            refine C.callSP (c_dig l Z a0 hw [] n0 h41 (own_b w 16)) (i1 := 22) (i2 := 23) (i3 := 9) (i4 := 24) rfl rfl rfl rfl (by decide) pd_0 rfl (argsL := [(.int (own_b w 16))]) rfl (rest := []) rfl rfl (W := 0) rfl (by decide) (by decide) (by decide) (by decide) d2_196 (pc' := 199) rfl (k' := 1) rfl (n' := 5) rfl ?_
            refine C.if_eq d2_199 (by decide) (pc1 := 225) rfl (pc2 := 202) rfl (fun q2 => ?_) (fun q2 => ?_)
            · refine C.ldcI (i := 11) rfl d2_225 (pc' := 227) rfl ?_
              exact C.ireturn d2_227 rfl (by decide) (by decide) (by simp [own_val, own_sh, own_lg, hn, b2i_f q2])
            · refine C.aloadN d2_202 rfl (pc' := 203) rfl ?_
              refine C.iload d2_203 rfl (pc' := 205) rfl ?_
              refine C.iconst d2_205 (v := 2) rfl (pc' := 206) rfl ?_
              refine C.iadd d2_206 (pc' := 207) rfl ?_
              refine castI (show ((1 : Int32) + (2 : Int32)) = (3 : Int32) from by decide) ?_
              refine C.iaload V_o30 (i := 3) ⟨by decide, by decide⟩ (v := (.int (own_b w 24))) rfl d2_207 (pc' := 208) rfl ?_
              refine C.bipush d2_208 (v := 46) rfl (pc' := 210) rfl ?_
              refine C.icmp_ne d2_210 (by decide) (pc1 := 225) rfl (pc2 := 213) rfl (fun q3 => ?_) (fun q3 => ?_)
              · refine C.ldcI (i := 11) rfl d2_225 (pc' := 227) rfl ?_
                exact C.ireturn d2_227 rfl (by decide) (by decide) (by simp [own_val, own_sh, own_lg, hn, q3])
              · refine C.aloadN d2_213 rfl (pc' := 214) rfl ?_
                refine C.iload d2_214 rfl (pc' := 216) rfl ?_
                refine C.iconst d2_216 (v := 3) rfl (pc' := 217) rfl ?_
                refine C.iadd d2_217 (pc' := 218) rfl ?_
                refine castI (show ((1 : Int32) + (3 : Int32)) = (4 : Int32) from by decide) ?_
                refine C.iaload V_o30 (i := 4) ⟨by decide, by decide⟩ (v := (.int (own_b w 32))) rfl d2_218 (pc' := 219) rfl ?_
                refine C.callSP (c_dig l Z a0 hw [] n0 h41 (own_b w 32)) (i1 := 22) (i2 := 23) (i3 := 9) (i4 := 24) rfl rfl rfl rfl (by decide) pd_0 rfl (argsL := [(.int (own_b w 32))]) rfl (rest := []) rfl rfl (W := 0) rfl (by decide) (by decide) (by decide) (by decide) d2_219 (pc' := 222) rfl (k' := 1) rfl (n' := 5) rfl ?_
                refine C.if_ne d2_222 (by decide) (pc1 := 228) rfl (pc2 := 225) rfl (fun q4 => ?_) (fun q4 => ?_)
                · refine C.aloadN d2_228 rfl (pc' := 229) rfl ?_
                  refine C.iload d2_229 rfl (pc' := 231) rfl ?_
                  refine C.iaload V_o30 (i := 1) ⟨by decide, by decide⟩ (v := (.int (own_b w 8))) rfl d2_231 (pc' := 232) rfl ?_
                  refine C.bipush d2_232 (v := 48) rfl (pc' := 234) rfl ?_
                  refine C.isub d2_234 (pc' := 235) rfl ?_
                  refine C.bipush d2_235 (v := 100) rfl (pc' := 237) rfl ?_
                  refine C.imul d2_237 (pc' := 238) rfl ?_
                  refine C.aloadN d2_238 rfl (pc' := 239) rfl ?_
                  refine C.iload d2_239 rfl (pc' := 241) rfl ?_
                  refine C.iconst d2_241 (v := 1) rfl (pc' := 242) rfl ?_
                  refine C.iadd d2_242 (pc' := 243) rfl ?_
                  refine castI (show ((1 : Int32) + (1 : Int32)) = (2 : Int32) from by decide) ?_
                  refine C.iaload V_o30 (i := 2) ⟨by decide, by decide⟩ (v := (.int (own_b w 16))) rfl d2_243 (pc' := 244) rfl ?_
                  refine C.bipush d2_244 (v := 48) rfl (pc' := 246) rfl ?_
                  refine C.isub d2_246 (pc' := 247) rfl ?_
                  refine C.bipush d2_247 (v := 10) rfl (pc' := 249) rfl ?_
                  refine C.imul d2_249 (pc' := 250) rfl ?_
                  refine C.iadd d2_250 (pc' := 251) rfl ?_
                  refine C.aloadN d2_251 rfl (pc' := 252) rfl ?_
                  refine C.iload d2_252 rfl (pc' := 254) rfl ?_
                  refine C.iconst d2_254 (v := 3) rfl (pc' := 255) rfl ?_
                  refine C.iadd d2_255 (pc' := 256) rfl ?_
                  refine castI (show ((1 : Int32) + (3 : Int32)) = (4 : Int32) from by decide) ?_
                  refine C.iaload V_o30 (i := 4) ⟨by decide, by decide⟩ (v := (.int (own_b w 32))) rfl d2_256 (pc' := 257) rfl ?_
                  refine C.bipush d2_257 (v := 48) rfl (pc' := 259) rfl ?_
                  refine C.isub d2_259 (pc' := 260) rfl ?_
                  refine C.iadd d2_260 (pc' := 261) rfl ?_
                  refine C.istore d2_261 (ls' := #[.val (.long w), .second, .val (.int (5 : Int32)), .val (.ref o30), .val (.int (1 : Int32)), .val (.int (1 : Int32)), .val (.int (4 : Int32)), .val (.int (((((own_b w 8) - (48 : Int32)) * (100 : Int32)) + (((own_b w 16) - (48 : Int32)) * (10 : Int32))) + ((own_b w 32) - (48 : Int32))))]) rfl (pc' := 263) rfl ?_
                  refine C.goto d2_263 (by decide) (pc' := 269) rfl ?_
                  refine C.iload d2_269 rfl (pc' := 271) rfl ?_
                  refine C.if_eq_F d2_271 (by decide) (pc' := 274) rfl ?_
                  refine C.iload d2_274 rfl (pc' := 276) rfl ?_
                  refine C.ineg d2_276 (pc' := 277) rfl ?_
                  refine C.goto d2_277 (by decide) (pc' := 282) rfl ?_
                  exact C.ireturn d2_282 rfl (by decide) (by decide) (by simp [own_val, own_sh, own_lg, hn, b2i_t q1, b2i_t q2, q3, b2i_t q4])
                · refine C.ldcI (i := 11) rfl d2_225 (pc' := 227) rfl ?_
                  exact C.ireturn d2_227 rfl (by decide) (by decide) (by simp [own_val, own_sh, own_lg, hn, b2i_f q4])
    · refine C.ldcI (i := 11) rfl d2_10 (pc' := 12) rfl ?_
      exact C.ireturn d2_12 rfl (by decide) (by decide) (by rw [own_val_gt h2])
set_option maxRecDepth 65536 in
set_option maxHeartbeats 4000000 in
theorem c_parse (l : Launch) (Z : State) (a0 : Array Value) (hw : ∀ d ∈ tables_1, d.before a0 Z = true) (wl : List Jvm.Cond) (n0 : Nat) (h : Heap) (w : Int64) (n : Int32) :
    Ctr l Z (⟨"com/example/nanoparse/nanoparse/Decimals", "parseTenths", "(JI)I"⟩ : MethodName) prog_8_method_6_code 9 (some .int) ({ frames := 0, cells := 0, slots := 0, locals := 0 } : Room) n0 #[(.long w), (.int n)] h (fun v h' => v = some (.int (own_val (own_b0 w) (own_b w 8) (own_b w 16) (own_b w 24) (own_b w 32) n)) ∧ h' = h) wl := by
  refine Ctr.of (ls := #[.val (.long w), .second, .val (.int n), .unset, .unset, .unset, .unset, .unset, .unset]) (by first | (exact plainFor_of_name (by first | (simp [plainName, overriddenIn]; done) | decide +kernel)) | decide +kernel) hw (fun m => entry_eq m (L1 := [.val (.long w), .second, .val (.int n)]) (k := 6) rfl rfl rfl) (fun G C => ?_)
  refine C.iloadN d1_0 rfl (pc' := 1) rfl ?_
  refine C.iconst d1_1 (v := 3) rfl (pc' := 2) rfl ?_
  refine C.icmp_lt d1_2 (by decide) (pc1 := 10) rfl (pc2 := 5) rfl (fun h1 => ?_) (fun h1 => ?_)
  · refine C.ldcI (i := 6) rfl d1_10 (pc' := 12) rfl ?_
    exact C.ireturn d1_12 rfl (by decide) (by decide) ⟨by rw [own_val_lt h1], rfl⟩
  · refine C.iloadN d1_5 rfl (pc' := 6) rfl ?_
    refine C.iconst d1_6 (v := 5) rfl (pc' := 7) rfl ?_
    refine C.icmp_le d1_7 (by decide) (pc1 := 13) rfl (pc2 := 10) rfl (fun h2 => ?_) (fun h2 => ?_)
    · rcases own_345 h1 h2 with rfl | rfl | rfl
      · refine C.lloadN d1_13 rfl (pc' := 14) rfl ?_
        refine C.ldcJ (i := 15) rfl d1_14 (pc' := 17) rfl ?_
        refine C.land d1_17 (pc' := 18) rfl ?_
        refine C.ldcJ (i := 16) rfl d1_18 (pc' := 21) rfl ?_
        refine C.lxor d1_21 (pc' := 22) rfl ?_
        refine C.lconst d1_22 (v := 1) rfl (pc' := 23) rfl ?_
        refine C.lsub d1_23 (pc' := 24) rfl ?_
        refine C.bipush d1_24 (v := 63) rfl (pc' := 26) rfl ?_
        refine C.lushr d1_26 (pc' := 27) rfl ?_
        refine C.l2i d1_27 (pc' := 28) rfl ?_
        by_cases hn : own_b0 w = 45
        · refine castI (show ((XT.ushrL (((w &&& (255 : Int64)) ^^^ (45 : Int64)) - (1 : Int64)) (63 : Int32))).toInt32 = (1 : Int32) from own_negT hn) ?_
          refine C.istoreN d1_28 (ls' := #[.val (.long w), .second, .val (.int (3 : Int32)), .val (.int (1 : Int32)), .unset, .unset, .unset, .unset, .unset]) rfl (pc' := 29) rfl ?_
          refine C.iloadN d1_29 rfl (pc' := 30) rfl ?_
          refine C.iconst d1_30 (v := 3) rfl (pc' := 31) rfl ?_
          refine C.isub d1_31 (pc' := 32) rfl ?_
          refine castI (show ((3 : Int32) - (3 : Int32)) = (0 : Int32) from by decide) ?_
          refine C.iloadN d1_32 rfl (pc' := 33) rfl ?_
          refine C.isub d1_33 (pc' := 34) rfl ?_
          refine castI (show ((0 : Int32) - (1 : Int32)) = (-1 : Int32) from by decide) ?_
          refine C.istore d1_34 (ls' := #[.val (.long w), .second, .val (.int (3 : Int32)), .val (.int (1 : Int32)), .val (.int (-1 : Int32)), .unset, .unset, .unset, .unset]) rfl (pc' := 36) rfl ?_
          refine C.lloadN d1_36 rfl (pc' := 37) rfl ?_
          refine C.iloadN d1_37 rfl (pc' := 38) rfl ?_
          refine C.bipush d1_38 (v := 45) rfl (pc' := 40) rfl ?_
          refine C.imul d1_40 (pc' := 41) rfl ?_
          refine castI (show ((1 : Int32) * (45 : Int32)) = (45 : Int32) from by decide) ?_
          refine C.i2l d1_41 (pc' := 42) rfl ?_
          refine castJ (show ((45 : Int32)).toInt64 = (45 : Int64) from by decide) ?_
          refine C.lxor d1_42 (pc' := 43) rfl ?_
          refine C.bipush d1_43 (v := 8) rfl (pc' := 45) rfl ?_
          refine C.lshl d1_45 (pc' := 46) rfl ?_
          refine C.bipush d1_46 (v := 8) rfl (pc' := 48) rfl ?_
          refine C.iloadN d1_48 rfl (pc' := 49) rfl ?_
          refine C.iconst d1_49 (v := 3) rfl (pc' := 50) rfl ?_
          refine C.isub d1_50 (pc' := 51) rfl ?_
          refine castI (show ((3 : Int32) - (3 : Int32)) = (0 : Int32) from by decide) ?_
          refine C.imul d1_51 (pc' := 52) rfl ?_
          refine castI (show ((8 : Int32) * (0 : Int32)) = (0 : Int32) from by decide) ?_
          refine C.lushr d1_52 (pc' := 53) rfl ?_
          refine C.l2i d1_53 (pc' := 54) rfl ?_
          obtain ⟨x, hx, hx'⟩ := own_last3T hn
          refine castI (show ((XT.ushrL ((w ^^^ (45 : Int64)) <<< (((8 : Int32)).toInt64 &&& 63)) (0 : Int32))).toInt32 = x from hx) ?_
          refine C.istore d1_54 (ls' := #[.val (.long w), .second, .val (.int (3 : Int32)), .val (.int (1 : Int32)), .val (.int (-1 : Int32)), .val (.int x), .unset, .unset, .unset]) rfl (pc' := 56) rfl ?_
          refine C.iload d1_56 rfl (pc' := 58) rfl ?_
          refine C.ldcI (i := 17) rfl d1_58 (pc' := 60) rfl ?_
          refine C.iload d1_60 rfl (pc' := 62) rfl ?_
          refine C.bipush d1_62 (v := 48) rfl (pc' := 64) rfl ?_
          refine C.imul d1_64 (pc' := 65) rfl ?_
          refine castI (show ((-1 : Int32) * (48 : Int32)) = (-48 : Int32) from by decide) ?_
          refine C.ior d1_65 (pc' := 66) rfl ?_
          refine castI (show ((808333312 : Int32) ||| (-48 : Int32)) = (-48 : Int32) from by decide) ?_
          refine C.ixor d1_66 (pc' := 67) rfl ?_
          refine C.istore d1_67 (ls' := #[.val (.long w), .second, .val (.int (3 : Int32)), .val (.int (1 : Int32)), .val (.int (-1 : Int32)), .val (.int x), .val (.int (x ^^^ (-48 : Int32))), .unset, .unset]) rfl (pc' := 69) rfl ?_
          refine C.iload d1_69 rfl (pc' := 71) rfl ?_
          refine C.ldcI (i := 18) rfl d1_71 (pc' := 73) rfl ?_
          refine C.iand d1_73 (pc' := 74) rfl ?_
          refine C.iload d1_74 rfl (pc' := 76) rfl ?_
          refine C.ldcI (i := 19) rfl d1_76 (pc' := 78) rfl ?_
          refine C.iadd d1_78 (pc' := 79) rfl ?_
          refine C.ldcI (i := 20) rfl d1_79 (pc' := 81) rfl ?_
          refine C.iand d1_81 (pc' := 82) rfl ?_
          refine C.ior d1_82 (pc' := 83) rfl ?_
          refine C.iload d1_83 rfl (pc' := 85) rfl ?_
          refine C.bipush d1_85 (v := -2) rfl (pc' := 87) rfl ?_
          refine C.iand d1_87 (pc' := 88) rfl ?_
          refine castI (show ((-1 : Int32) &&& (-2 : Int32)) = (-2 : Int32) from by decide) ?_
          refine C.ior d1_88 (pc' := 89) rfl ?_
          refine C.istore d1_89 (ls' := #[.val (.long w), .second, .val (.int (3 : Int32)), .val (.int (1 : Int32)), .val (.int (-1 : Int32)), .val (.int x), .val (.int (x ^^^ (-48 : Int32))), .val (.int ((((x ^^^ (-48 : Int32)) &&& (-251662096 : Int32)) ||| (((x ^^^ (-48 : Int32)) + (100664838 : Int32)) &&& (268439568 : Int32))) ||| (-2 : Int32))), .unset]) rfl (pc' := 91) rfl ?_
          refine C.iload d1_91 rfl (pc' := 93) rfl ?_
          refine C.if_eq_F d1_93 (own_or (by decide)) (pc' := 96) rfl ?_
          refine C.ldcI (i := 6) rfl d1_96 (pc' := 98) rfl ?_
          exact C.ireturn d1_98 rfl (by decide) (by decide) ⟨by simp [own_val, hn], rfl⟩
        · refine castI (show ((XT.ushrL (((w &&& (255 : Int64)) ^^^ (45 : Int64)) - (1 : Int64)) (63 : Int32))).toInt32 = (0 : Int32) from own_negF hn) ?_
          refine C.istoreN d1_28 (ls' := #[.val (.long w), .second, .val (.int (3 : Int32)), .val (.int (0 : Int32)), .unset, .unset, .unset, .unset, .unset]) rfl (pc' := 29) rfl ?_
          refine C.iloadN d1_29 rfl (pc' := 30) rfl ?_
          refine C.iconst d1_30 (v := 3) rfl (pc' := 31) rfl ?_
          refine C.isub d1_31 (pc' := 32) rfl ?_
          refine castI (show ((3 : Int32) - (3 : Int32)) = (0 : Int32) from by decide) ?_
          refine C.iloadN d1_32 rfl (pc' := 33) rfl ?_
          refine C.isub d1_33 (pc' := 34) rfl ?_
          refine castI (show ((0 : Int32) - (0 : Int32)) = (0 : Int32) from by decide) ?_
          refine C.istore d1_34 (ls' := #[.val (.long w), .second, .val (.int (3 : Int32)), .val (.int (0 : Int32)), .val (.int (0 : Int32)), .unset, .unset, .unset, .unset]) rfl (pc' := 36) rfl ?_
          refine C.lloadN d1_36 rfl (pc' := 37) rfl ?_
          refine C.iloadN d1_37 rfl (pc' := 38) rfl ?_
          refine C.bipush d1_38 (v := 45) rfl (pc' := 40) rfl ?_
          refine C.imul d1_40 (pc' := 41) rfl ?_
          refine castI (show ((0 : Int32) * (45 : Int32)) = (0 : Int32) from by decide) ?_
          refine C.i2l d1_41 (pc' := 42) rfl ?_
          refine castJ (show ((0 : Int32)).toInt64 = (0 : Int64) from by decide) ?_
          refine C.lxor d1_42 (pc' := 43) rfl ?_
          refine C.bipush d1_43 (v := 8) rfl (pc' := 45) rfl ?_
          refine C.lshl d1_45 (pc' := 46) rfl ?_
          refine C.bipush d1_46 (v := 8) rfl (pc' := 48) rfl ?_
          refine C.iloadN d1_48 rfl (pc' := 49) rfl ?_
          refine C.iconst d1_49 (v := 3) rfl (pc' := 50) rfl ?_
          refine C.isub d1_50 (pc' := 51) rfl ?_
          refine castI (show ((3 : Int32) - (3 : Int32)) = (0 : Int32) from by decide) ?_
          refine C.imul d1_51 (pc' := 52) rfl ?_
          refine castI (show ((8 : Int32) * (0 : Int32)) = (0 : Int32) from by decide) ?_
          refine C.lushr d1_52 (pc' := 53) rfl ?_
          refine C.l2i d1_53 (pc' := 54) rfl ?_
          obtain ⟨x, hx, hx'⟩ := own_last3F hn
          refine castI (show ((XT.ushrL ((w ^^^ (0 : Int64)) <<< (((8 : Int32)).toInt64 &&& 63)) (0 : Int32))).toInt32 = x from hx) ?_
          refine C.istore d1_54 (ls' := #[.val (.long w), .second, .val (.int (3 : Int32)), .val (.int (0 : Int32)), .val (.int (0 : Int32)), .val (.int x), .unset, .unset, .unset]) rfl (pc' := 56) rfl ?_
          refine C.iload d1_56 rfl (pc' := 58) rfl ?_
          refine C.ldcI (i := 17) rfl d1_58 (pc' := 60) rfl ?_
          refine C.iload d1_60 rfl (pc' := 62) rfl ?_
          refine C.bipush d1_62 (v := 48) rfl (pc' := 64) rfl ?_
          refine C.imul d1_64 (pc' := 65) rfl ?_
          refine castI (show ((0 : Int32) * (48 : Int32)) = (0 : Int32) from by decide) ?_
          refine C.ior d1_65 (pc' := 66) rfl ?_
          refine castI (show ((808333312 : Int32) ||| (0 : Int32)) = (808333312 : Int32) from by decide) ?_
          refine C.ixor d1_66 (pc' := 67) rfl ?_
          refine C.istore d1_67 (ls' := #[.val (.long w), .second, .val (.int (3 : Int32)), .val (.int (0 : Int32)), .val (.int (0 : Int32)), .val (.int x), .val (.int (x ^^^ (808333312 : Int32))), .unset, .unset]) rfl (pc' := 69) rfl ?_
          refine C.iload d1_69 rfl (pc' := 71) rfl ?_
          refine C.ldcI (i := 18) rfl d1_71 (pc' := 73) rfl ?_
          refine C.iand d1_73 (pc' := 74) rfl ?_
          refine C.iload d1_74 rfl (pc' := 76) rfl ?_
          refine C.ldcI (i := 19) rfl d1_76 (pc' := 78) rfl ?_
          refine C.iadd d1_78 (pc' := 79) rfl ?_
          refine C.ldcI (i := 20) rfl d1_79 (pc' := 81) rfl ?_
          refine C.iand d1_81 (pc' := 82) rfl ?_
          refine C.ior d1_82 (pc' := 83) rfl ?_
          refine C.iload d1_83 rfl (pc' := 85) rfl ?_
          refine C.bipush d1_85 (v := -2) rfl (pc' := 87) rfl ?_
          refine C.iand d1_87 (pc' := 88) rfl ?_
          refine castI (show ((0 : Int32) &&& (-2 : Int32)) = (0 : Int32) from by decide) ?_
          refine C.ior d1_88 (pc' := 89) rfl ?_
          refine C.istore d1_89 (ls' := #[.val (.long w), .second, .val (.int (3 : Int32)), .val (.int (0 : Int32)), .val (.int (0 : Int32)), .val (.int x), .val (.int (x ^^^ (808333312 : Int32))), .val (.int ((((x ^^^ (808333312 : Int32)) &&& (-251662096 : Int32)) ||| (((x ^^^ (808333312 : Int32)) + (100664838 : Int32)) &&& (268439568 : Int32))) ||| (0 : Int32))), .unset]) rfl (pc' := 91) rfl ?_
          refine C.iload d1_91 rfl (pc' := 93) rfl ?_
          refine C.if_eq d1_93 (by decide) (pc1 := 99) rfl (pc2 := 96) rfl (fun hq => ?_) (fun hq => ?_)
          · refine C.iload d1_99 rfl (pc' := 101) rfl ?_
            refine C.ldcI (i := 25) rfl d1_101 (pc' := 103) rfl ?_
            refine C.iand d1_103 (pc' := 104) rfl ?_
            refine C.i2l d1_104 (pc' := 105) rfl ?_
            refine C.ldcJ (i := 26) rfl d1_105 (pc' := 108) rfl ?_
            refine C.lmul d1_108 (pc' := 109) rfl ?_
            refine C.bipush d1_109 (v := 24) rfl (pc' := 111) rfl ?_
            refine C.lushr d1_111 (pc' := 112) rfl ?_
            refine C.l2i d1_112 (pc' := 113) rfl ?_
            refine C.sipush d1_113 (v := 1023) rfl (pc' := 116) rfl ?_
            refine C.iand d1_116 (pc' := 117) rfl ?_
            refine C.istore d1_117 (ls' := #[.val (.long w), .second, .val (.int (3 : Int32)), .val (.int (0 : Int32)), .val (.int (0 : Int32)), .val (.int x), .val (.int (x ^^^ (808333312 : Int32))), .val (.int ((((x ^^^ (808333312 : Int32)) &&& (-251662096 : Int32)) ||| (((x ^^^ (808333312 : Int32)) + (100664838 : Int32)) &&& (268439568 : Int32))) ||| (0 : Int32))), .val (.int (((XT.ushrL ((((x ^^^ (808333312 : Int32)) &&& (251662095 : Int32))).toInt64 * (1678376961 : Int64)) (24 : Int32))).toInt32 &&& (1023 : Int32)))]) rfl (pc' := 119) rfl ?_
            refine C.iload d1_119 rfl (pc' := 121) rfl ?_
            refine C.iloadN d1_121 rfl (pc' := 122) rfl ?_
            refine C.ineg d1_122 (pc' := 123) rfl ?_
            refine castI (show (-(0 : Int32)) = (0 : Int32) from by decide) ?_
            refine C.ixor d1_123 (pc' := 124) rfl ?_
            refine C.iloadN d1_124 rfl (pc' := 125) rfl ?_
            refine C.iadd d1_125 (pc' := 126) rfl ?_
            exact C.ireturn d1_126 rfl (by decide) (by decide) ⟨(own_good3F hn hx' hq), rfl⟩
          · refine C.ldcI (i := 6) rfl d1_96 (pc' := 98) rfl ?_
            exact C.ireturn d1_98 rfl (by decide) (by decide) ⟨(own_bad3F hn hx' hq), rfl⟩
      · refine C.lloadN d1_13 rfl (pc' := 14) rfl ?_
        refine C.ldcJ (i := 15) rfl d1_14 (pc' := 17) rfl ?_
        refine C.land d1_17 (pc' := 18) rfl ?_
        refine C.ldcJ (i := 16) rfl d1_18 (pc' := 21) rfl ?_
        refine C.lxor d1_21 (pc' := 22) rfl ?_
        refine C.lconst d1_22 (v := 1) rfl (pc' := 23) rfl ?_
        refine C.lsub d1_23 (pc' := 24) rfl ?_
        refine C.bipush d1_24 (v := 63) rfl (pc' := 26) rfl ?_
        refine C.lushr d1_26 (pc' := 27) rfl ?_
        refine C.l2i d1_27 (pc' := 28) rfl ?_
        by_cases hn : own_b0 w = 45
        · refine castI (show ((XT.ushrL (((w &&& (255 : Int64)) ^^^ (45 : Int64)) - (1 : Int64)) (63 : Int32))).toInt32 = (1 : Int32) from own_negT hn) ?_
          refine C.istoreN d1_28 (ls' := #[.val (.long w), .second, .val (.int (4 : Int32)), .val (.int (1 : Int32)), .unset, .unset, .unset, .unset, .unset]) rfl (pc' := 29) rfl ?_
          refine C.iloadN d1_29 rfl (pc' := 30) rfl ?_
          refine C.iconst d1_30 (v := 3) rfl (pc' := 31) rfl ?_
          refine C.isub d1_31 (pc' := 32) rfl ?_
          refine castI (show ((4 : Int32) - (3 : Int32)) = (1 : Int32) from by decide) ?_
          refine C.iloadN d1_32 rfl (pc' := 33) rfl ?_
          refine C.isub d1_33 (pc' := 34) rfl ?_
          refine castI (show ((1 : Int32) - (1 : Int32)) = (0 : Int32) from by decide) ?_
          refine C.istore d1_34 (ls' := #[.val (.long w), .second, .val (.int (4 : Int32)), .val (.int (1 : Int32)), .val (.int (0 : Int32)), .unset, .unset, .unset, .unset]) rfl (pc' := 36) rfl ?_
          refine C.lloadN d1_36 rfl (pc' := 37) rfl ?_
          refine C.iloadN d1_37 rfl (pc' := 38) rfl ?_
          refine C.bipush d1_38 (v := 45) rfl (pc' := 40) rfl ?_
          refine C.imul d1_40 (pc' := 41) rfl ?_
          refine castI (show ((1 : Int32) * (45 : Int32)) = (45 : Int32) from by decide) ?_
          refine C.i2l d1_41 (pc' := 42) rfl ?_
          refine castJ (show ((45 : Int32)).toInt64 = (45 : Int64) from by decide) ?_
          refine C.lxor d1_42 (pc' := 43) rfl ?_
          refine C.bipush d1_43 (v := 8) rfl (pc' := 45) rfl ?_
          refine C.lshl d1_45 (pc' := 46) rfl ?_
          refine C.bipush d1_46 (v := 8) rfl (pc' := 48) rfl ?_
          refine C.iloadN d1_48 rfl (pc' := 49) rfl ?_
          refine C.iconst d1_49 (v := 3) rfl (pc' := 50) rfl ?_
          refine C.isub d1_50 (pc' := 51) rfl ?_
          refine castI (show ((4 : Int32) - (3 : Int32)) = (1 : Int32) from by decide) ?_
          refine C.imul d1_51 (pc' := 52) rfl ?_
          refine castI (show ((8 : Int32) * (1 : Int32)) = (8 : Int32) from by decide) ?_
          refine C.lushr d1_52 (pc' := 53) rfl ?_
          refine C.l2i d1_53 (pc' := 54) rfl ?_
          obtain ⟨x, hx, hx'⟩ := own_last4T hn
          refine castI (show ((XT.ushrL ((w ^^^ (45 : Int64)) <<< (((8 : Int32)).toInt64 &&& 63)) (8 : Int32))).toInt32 = x from hx) ?_
          refine C.istore d1_54 (ls' := #[.val (.long w), .second, .val (.int (4 : Int32)), .val (.int (1 : Int32)), .val (.int (0 : Int32)), .val (.int x), .unset, .unset, .unset]) rfl (pc' := 56) rfl ?_
          refine C.iload d1_56 rfl (pc' := 58) rfl ?_
          refine C.ldcI (i := 17) rfl d1_58 (pc' := 60) rfl ?_
          refine C.iload d1_60 rfl (pc' := 62) rfl ?_
          refine C.bipush d1_62 (v := 48) rfl (pc' := 64) rfl ?_
          refine C.imul d1_64 (pc' := 65) rfl ?_
          refine castI (show ((0 : Int32) * (48 : Int32)) = (0 : Int32) from by decide) ?_
          refine C.ior d1_65 (pc' := 66) rfl ?_
          refine castI (show ((808333312 : Int32) ||| (0 : Int32)) = (808333312 : Int32) from by decide) ?_
          refine C.ixor d1_66 (pc' := 67) rfl ?_
          refine C.istore d1_67 (ls' := #[.val (.long w), .second, .val (.int (4 : Int32)), .val (.int (1 : Int32)), .val (.int (0 : Int32)), .val (.int x), .val (.int (x ^^^ (808333312 : Int32))), .unset, .unset]) rfl (pc' := 69) rfl ?_
          refine C.iload d1_69 rfl (pc' := 71) rfl ?_
          refine C.ldcI (i := 18) rfl d1_71 (pc' := 73) rfl ?_
          refine C.iand d1_73 (pc' := 74) rfl ?_
          refine C.iload d1_74 rfl (pc' := 76) rfl ?_
          refine C.ldcI (i := 19) rfl d1_76 (pc' := 78) rfl ?_
          refine C.iadd d1_78 (pc' := 79) rfl ?_
          refine C.ldcI (i := 20) rfl d1_79 (pc' := 81) rfl ?_
          refine C.iand d1_81 (pc' := 82) rfl ?_
          refine C.ior d1_82 (pc' := 83) rfl ?_
          refine C.iload d1_83 rfl (pc' := 85) rfl ?_
          refine C.bipush d1_85 (v := -2) rfl (pc' := 87) rfl ?_
          refine C.iand d1_87 (pc' := 88) rfl ?_
          refine castI (show ((0 : Int32) &&& (-2 : Int32)) = (0 : Int32) from by decide) ?_
          refine C.ior d1_88 (pc' := 89) rfl ?_
          refine C.istore d1_89 (ls' := #[.val (.long w), .second, .val (.int (4 : Int32)), .val (.int (1 : Int32)), .val (.int (0 : Int32)), .val (.int x), .val (.int (x ^^^ (808333312 : Int32))), .val (.int ((((x ^^^ (808333312 : Int32)) &&& (-251662096 : Int32)) ||| (((x ^^^ (808333312 : Int32)) + (100664838 : Int32)) &&& (268439568 : Int32))) ||| (0 : Int32))), .unset]) rfl (pc' := 91) rfl ?_
          refine C.iload d1_91 rfl (pc' := 93) rfl ?_
          refine C.if_eq d1_93 (by decide) (pc1 := 99) rfl (pc2 := 96) rfl (fun hq => ?_) (fun hq => ?_)
          · refine C.iload d1_99 rfl (pc' := 101) rfl ?_
            refine C.ldcI (i := 25) rfl d1_101 (pc' := 103) rfl ?_
            refine C.iand d1_103 (pc' := 104) rfl ?_
            refine C.i2l d1_104 (pc' := 105) rfl ?_
            refine C.ldcJ (i := 26) rfl d1_105 (pc' := 108) rfl ?_
            refine C.lmul d1_108 (pc' := 109) rfl ?_
            refine C.bipush d1_109 (v := 24) rfl (pc' := 111) rfl ?_
            refine C.lushr d1_111 (pc' := 112) rfl ?_
            refine C.l2i d1_112 (pc' := 113) rfl ?_
            refine C.sipush d1_113 (v := 1023) rfl (pc' := 116) rfl ?_
            refine C.iand d1_116 (pc' := 117) rfl ?_
            refine C.istore d1_117 (ls' := #[.val (.long w), .second, .val (.int (4 : Int32)), .val (.int (1 : Int32)), .val (.int (0 : Int32)), .val (.int x), .val (.int (x ^^^ (808333312 : Int32))), .val (.int ((((x ^^^ (808333312 : Int32)) &&& (-251662096 : Int32)) ||| (((x ^^^ (808333312 : Int32)) + (100664838 : Int32)) &&& (268439568 : Int32))) ||| (0 : Int32))), .val (.int (((XT.ushrL ((((x ^^^ (808333312 : Int32)) &&& (251662095 : Int32))).toInt64 * (1678376961 : Int64)) (24 : Int32))).toInt32 &&& (1023 : Int32)))]) rfl (pc' := 119) rfl ?_
            refine C.iload d1_119 rfl (pc' := 121) rfl ?_
            refine C.iloadN d1_121 rfl (pc' := 122) rfl ?_
            refine C.ineg d1_122 (pc' := 123) rfl ?_
            refine castI (show (-(1 : Int32)) = (-1 : Int32) from by decide) ?_
            refine C.ixor d1_123 (pc' := 124) rfl ?_
            refine C.iloadN d1_124 rfl (pc' := 125) rfl ?_
            refine C.iadd d1_125 (pc' := 126) rfl ?_
            exact C.ireturn d1_126 rfl (by decide) (by decide) ⟨(own_good4T hn hx' hq), rfl⟩
          · refine C.ldcI (i := 6) rfl d1_96 (pc' := 98) rfl ?_
            exact C.ireturn d1_98 rfl (by decide) (by decide) ⟨(own_bad4T hn hx' hq), rfl⟩
        · refine castI (show ((XT.ushrL (((w &&& (255 : Int64)) ^^^ (45 : Int64)) - (1 : Int64)) (63 : Int32))).toInt32 = (0 : Int32) from own_negF hn) ?_
          refine C.istoreN d1_28 (ls' := #[.val (.long w), .second, .val (.int (4 : Int32)), .val (.int (0 : Int32)), .unset, .unset, .unset, .unset, .unset]) rfl (pc' := 29) rfl ?_
          refine C.iloadN d1_29 rfl (pc' := 30) rfl ?_
          refine C.iconst d1_30 (v := 3) rfl (pc' := 31) rfl ?_
          refine C.isub d1_31 (pc' := 32) rfl ?_
          refine castI (show ((4 : Int32) - (3 : Int32)) = (1 : Int32) from by decide) ?_
          refine C.iloadN d1_32 rfl (pc' := 33) rfl ?_
          refine C.isub d1_33 (pc' := 34) rfl ?_
          refine castI (show ((1 : Int32) - (0 : Int32)) = (1 : Int32) from by decide) ?_
          refine C.istore d1_34 (ls' := #[.val (.long w), .second, .val (.int (4 : Int32)), .val (.int (0 : Int32)), .val (.int (1 : Int32)), .unset, .unset, .unset, .unset]) rfl (pc' := 36) rfl ?_
          refine C.lloadN d1_36 rfl (pc' := 37) rfl ?_
          refine C.iloadN d1_37 rfl (pc' := 38) rfl ?_
          refine C.bipush d1_38 (v := 45) rfl (pc' := 40) rfl ?_
          refine C.imul d1_40 (pc' := 41) rfl ?_
          refine castI (show ((0 : Int32) * (45 : Int32)) = (0 : Int32) from by decide) ?_
          refine C.i2l d1_41 (pc' := 42) rfl ?_
          refine castJ (show ((0 : Int32)).toInt64 = (0 : Int64) from by decide) ?_
          refine C.lxor d1_42 (pc' := 43) rfl ?_
          refine C.bipush d1_43 (v := 8) rfl (pc' := 45) rfl ?_
          refine C.lshl d1_45 (pc' := 46) rfl ?_
          refine C.bipush d1_46 (v := 8) rfl (pc' := 48) rfl ?_
          refine C.iloadN d1_48 rfl (pc' := 49) rfl ?_
          refine C.iconst d1_49 (v := 3) rfl (pc' := 50) rfl ?_
          refine C.isub d1_50 (pc' := 51) rfl ?_
          refine castI (show ((4 : Int32) - (3 : Int32)) = (1 : Int32) from by decide) ?_
          refine C.imul d1_51 (pc' := 52) rfl ?_
          refine castI (show ((8 : Int32) * (1 : Int32)) = (8 : Int32) from by decide) ?_
          refine C.lushr d1_52 (pc' := 53) rfl ?_
          refine C.l2i d1_53 (pc' := 54) rfl ?_
          obtain ⟨x, hx, hx'⟩ := own_last4F hn
          refine castI (show ((XT.ushrL ((w ^^^ (0 : Int64)) <<< (((8 : Int32)).toInt64 &&& 63)) (8 : Int32))).toInt32 = x from hx) ?_
          refine C.istore d1_54 (ls' := #[.val (.long w), .second, .val (.int (4 : Int32)), .val (.int (0 : Int32)), .val (.int (1 : Int32)), .val (.int x), .unset, .unset, .unset]) rfl (pc' := 56) rfl ?_
          refine C.iload d1_56 rfl (pc' := 58) rfl ?_
          refine C.ldcI (i := 17) rfl d1_58 (pc' := 60) rfl ?_
          refine C.iload d1_60 rfl (pc' := 62) rfl ?_
          refine C.bipush d1_62 (v := 48) rfl (pc' := 64) rfl ?_
          refine C.imul d1_64 (pc' := 65) rfl ?_
          refine castI (show ((1 : Int32) * (48 : Int32)) = (48 : Int32) from by decide) ?_
          refine C.ior d1_65 (pc' := 66) rfl ?_
          refine castI (show ((808333312 : Int32) ||| (48 : Int32)) = (808333360 : Int32) from by decide) ?_
          refine C.ixor d1_66 (pc' := 67) rfl ?_
          refine C.istore d1_67 (ls' := #[.val (.long w), .second, .val (.int (4 : Int32)), .val (.int (0 : Int32)), .val (.int (1 : Int32)), .val (.int x), .val (.int (x ^^^ (808333360 : Int32))), .unset, .unset]) rfl (pc' := 69) rfl ?_
          refine C.iload d1_69 rfl (pc' := 71) rfl ?_
          refine C.ldcI (i := 18) rfl d1_71 (pc' := 73) rfl ?_
          refine C.iand d1_73 (pc' := 74) rfl ?_
          refine C.iload d1_74 rfl (pc' := 76) rfl ?_
          refine C.ldcI (i := 19) rfl d1_76 (pc' := 78) rfl ?_
          refine C.iadd d1_78 (pc' := 79) rfl ?_
          refine C.ldcI (i := 20) rfl d1_79 (pc' := 81) rfl ?_
          refine C.iand d1_81 (pc' := 82) rfl ?_
          refine C.ior d1_82 (pc' := 83) rfl ?_
          refine C.iload d1_83 rfl (pc' := 85) rfl ?_
          refine C.bipush d1_85 (v := -2) rfl (pc' := 87) rfl ?_
          refine C.iand d1_87 (pc' := 88) rfl ?_
          refine castI (show ((1 : Int32) &&& (-2 : Int32)) = (0 : Int32) from by decide) ?_
          refine C.ior d1_88 (pc' := 89) rfl ?_
          refine C.istore d1_89 (ls' := #[.val (.long w), .second, .val (.int (4 : Int32)), .val (.int (0 : Int32)), .val (.int (1 : Int32)), .val (.int x), .val (.int (x ^^^ (808333360 : Int32))), .val (.int ((((x ^^^ (808333360 : Int32)) &&& (-251662096 : Int32)) ||| (((x ^^^ (808333360 : Int32)) + (100664838 : Int32)) &&& (268439568 : Int32))) ||| (0 : Int32))), .unset]) rfl (pc' := 91) rfl ?_
          refine C.iload d1_91 rfl (pc' := 93) rfl ?_
          refine C.if_eq d1_93 (by decide) (pc1 := 99) rfl (pc2 := 96) rfl (fun hq => ?_) (fun hq => ?_)
          · refine C.iload d1_99 rfl (pc' := 101) rfl ?_
            refine C.ldcI (i := 25) rfl d1_101 (pc' := 103) rfl ?_
            refine C.iand d1_103 (pc' := 104) rfl ?_
            refine C.i2l d1_104 (pc' := 105) rfl ?_
            refine C.ldcJ (i := 26) rfl d1_105 (pc' := 108) rfl ?_
            refine C.lmul d1_108 (pc' := 109) rfl ?_
            refine C.bipush d1_109 (v := 24) rfl (pc' := 111) rfl ?_
            refine C.lushr d1_111 (pc' := 112) rfl ?_
            refine C.l2i d1_112 (pc' := 113) rfl ?_
            refine C.sipush d1_113 (v := 1023) rfl (pc' := 116) rfl ?_
            refine C.iand d1_116 (pc' := 117) rfl ?_
            refine C.istore d1_117 (ls' := #[.val (.long w), .second, .val (.int (4 : Int32)), .val (.int (0 : Int32)), .val (.int (1 : Int32)), .val (.int x), .val (.int (x ^^^ (808333360 : Int32))), .val (.int ((((x ^^^ (808333360 : Int32)) &&& (-251662096 : Int32)) ||| (((x ^^^ (808333360 : Int32)) + (100664838 : Int32)) &&& (268439568 : Int32))) ||| (0 : Int32))), .val (.int (((XT.ushrL ((((x ^^^ (808333360 : Int32)) &&& (251662095 : Int32))).toInt64 * (1678376961 : Int64)) (24 : Int32))).toInt32 &&& (1023 : Int32)))]) rfl (pc' := 119) rfl ?_
            refine C.iload d1_119 rfl (pc' := 121) rfl ?_
            refine C.iloadN d1_121 rfl (pc' := 122) rfl ?_
            refine C.ineg d1_122 (pc' := 123) rfl ?_
            refine castI (show (-(0 : Int32)) = (0 : Int32) from by decide) ?_
            refine C.ixor d1_123 (pc' := 124) rfl ?_
            refine C.iloadN d1_124 rfl (pc' := 125) rfl ?_
            refine C.iadd d1_125 (pc' := 126) rfl ?_
            exact C.ireturn d1_126 rfl (by decide) (by decide) ⟨(own_good4F hn hx' hq), rfl⟩
          · refine C.ldcI (i := 6) rfl d1_96 (pc' := 98) rfl ?_
            exact C.ireturn d1_98 rfl (by decide) (by decide) ⟨(own_bad4F hn hx' hq), rfl⟩
      · refine C.lloadN d1_13 rfl (pc' := 14) rfl ?_
        refine C.ldcJ (i := 15) rfl d1_14 (pc' := 17) rfl ?_
        refine C.land d1_17 (pc' := 18) rfl ?_
        refine C.ldcJ (i := 16) rfl d1_18 (pc' := 21) rfl ?_
        refine C.lxor d1_21 (pc' := 22) rfl ?_
        refine C.lconst d1_22 (v := 1) rfl (pc' := 23) rfl ?_
        refine C.lsub d1_23 (pc' := 24) rfl ?_
        refine C.bipush d1_24 (v := 63) rfl (pc' := 26) rfl ?_
        refine C.lushr d1_26 (pc' := 27) rfl ?_
        refine C.l2i d1_27 (pc' := 28) rfl ?_
        by_cases hn : own_b0 w = 45
        · refine castI (show ((XT.ushrL (((w &&& (255 : Int64)) ^^^ (45 : Int64)) - (1 : Int64)) (63 : Int32))).toInt32 = (1 : Int32) from own_negT hn) ?_
          refine C.istoreN d1_28 (ls' := #[.val (.long w), .second, .val (.int (5 : Int32)), .val (.int (1 : Int32)), .unset, .unset, .unset, .unset, .unset]) rfl (pc' := 29) rfl ?_
          refine C.iloadN d1_29 rfl (pc' := 30) rfl ?_
          refine C.iconst d1_30 (v := 3) rfl (pc' := 31) rfl ?_
          refine C.isub d1_31 (pc' := 32) rfl ?_
          refine castI (show ((5 : Int32) - (3 : Int32)) = (2 : Int32) from by decide) ?_
          refine C.iloadN d1_32 rfl (pc' := 33) rfl ?_
          refine C.isub d1_33 (pc' := 34) rfl ?_
          refine castI (show ((2 : Int32) - (1 : Int32)) = (1 : Int32) from by decide) ?_
          refine C.istore d1_34 (ls' := #[.val (.long w), .second, .val (.int (5 : Int32)), .val (.int (1 : Int32)), .val (.int (1 : Int32)), .unset, .unset, .unset, .unset]) rfl (pc' := 36) rfl ?_
          refine C.lloadN d1_36 rfl (pc' := 37) rfl ?_
          refine C.iloadN d1_37 rfl (pc' := 38) rfl ?_
          refine C.bipush d1_38 (v := 45) rfl (pc' := 40) rfl ?_
          refine C.imul d1_40 (pc' := 41) rfl ?_
          refine castI (show ((1 : Int32) * (45 : Int32)) = (45 : Int32) from by decide) ?_
          refine C.i2l d1_41 (pc' := 42) rfl ?_
          refine castJ (show ((45 : Int32)).toInt64 = (45 : Int64) from by decide) ?_
          refine C.lxor d1_42 (pc' := 43) rfl ?_
          refine C.bipush d1_43 (v := 8) rfl (pc' := 45) rfl ?_
          refine C.lshl d1_45 (pc' := 46) rfl ?_
          refine C.bipush d1_46 (v := 8) rfl (pc' := 48) rfl ?_
          refine C.iloadN d1_48 rfl (pc' := 49) rfl ?_
          refine C.iconst d1_49 (v := 3) rfl (pc' := 50) rfl ?_
          refine C.isub d1_50 (pc' := 51) rfl ?_
          refine castI (show ((5 : Int32) - (3 : Int32)) = (2 : Int32) from by decide) ?_
          refine C.imul d1_51 (pc' := 52) rfl ?_
          refine castI (show ((8 : Int32) * (2 : Int32)) = (16 : Int32) from by decide) ?_
          refine C.lushr d1_52 (pc' := 53) rfl ?_
          refine C.l2i d1_53 (pc' := 54) rfl ?_
          obtain ⟨x, hx, hx'⟩ := own_last5T hn
          refine castI (show ((XT.ushrL ((w ^^^ (45 : Int64)) <<< (((8 : Int32)).toInt64 &&& 63)) (16 : Int32))).toInt32 = x from hx) ?_
          refine C.istore d1_54 (ls' := #[.val (.long w), .second, .val (.int (5 : Int32)), .val (.int (1 : Int32)), .val (.int (1 : Int32)), .val (.int x), .unset, .unset, .unset]) rfl (pc' := 56) rfl ?_
          refine C.iload d1_56 rfl (pc' := 58) rfl ?_
          refine C.ldcI (i := 17) rfl d1_58 (pc' := 60) rfl ?_
          refine C.iload d1_60 rfl (pc' := 62) rfl ?_
          refine C.bipush d1_62 (v := 48) rfl (pc' := 64) rfl ?_
          refine C.imul d1_64 (pc' := 65) rfl ?_
          refine castI (show ((1 : Int32) * (48 : Int32)) = (48 : Int32) from by decide) ?_
          refine C.ior d1_65 (pc' := 66) rfl ?_
          refine castI (show ((808333312 : Int32) ||| (48 : Int32)) = (808333360 : Int32) from by decide) ?_
          refine C.ixor d1_66 (pc' := 67) rfl ?_
          refine C.istore d1_67 (ls' := #[.val (.long w), .second, .val (.int (5 : Int32)), .val (.int (1 : Int32)), .val (.int (1 : Int32)), .val (.int x), .val (.int (x ^^^ (808333360 : Int32))), .unset, .unset]) rfl (pc' := 69) rfl ?_
          refine C.iload d1_69 rfl (pc' := 71) rfl ?_
          refine C.ldcI (i := 18) rfl d1_71 (pc' := 73) rfl ?_
          refine C.iand d1_73 (pc' := 74) rfl ?_
          refine C.iload d1_74 rfl (pc' := 76) rfl ?_
          refine C.ldcI (i := 19) rfl d1_76 (pc' := 78) rfl ?_
          refine C.iadd d1_78 (pc' := 79) rfl ?_
          refine C.ldcI (i := 20) rfl d1_79 (pc' := 81) rfl ?_
          refine C.iand d1_81 (pc' := 82) rfl ?_
          refine C.ior d1_82 (pc' := 83) rfl ?_
          refine C.iload d1_83 rfl (pc' := 85) rfl ?_
          refine C.bipush d1_85 (v := -2) rfl (pc' := 87) rfl ?_
          refine C.iand d1_87 (pc' := 88) rfl ?_
          refine castI (show ((1 : Int32) &&& (-2 : Int32)) = (0 : Int32) from by decide) ?_
          refine C.ior d1_88 (pc' := 89) rfl ?_
          refine C.istore d1_89 (ls' := #[.val (.long w), .second, .val (.int (5 : Int32)), .val (.int (1 : Int32)), .val (.int (1 : Int32)), .val (.int x), .val (.int (x ^^^ (808333360 : Int32))), .val (.int ((((x ^^^ (808333360 : Int32)) &&& (-251662096 : Int32)) ||| (((x ^^^ (808333360 : Int32)) + (100664838 : Int32)) &&& (268439568 : Int32))) ||| (0 : Int32))), .unset]) rfl (pc' := 91) rfl ?_
          refine C.iload d1_91 rfl (pc' := 93) rfl ?_
          refine C.if_eq d1_93 (by decide) (pc1 := 99) rfl (pc2 := 96) rfl (fun hq => ?_) (fun hq => ?_)
          · refine C.iload d1_99 rfl (pc' := 101) rfl ?_
            refine C.ldcI (i := 25) rfl d1_101 (pc' := 103) rfl ?_
            refine C.iand d1_103 (pc' := 104) rfl ?_
            refine C.i2l d1_104 (pc' := 105) rfl ?_
            refine C.ldcJ (i := 26) rfl d1_105 (pc' := 108) rfl ?_
            refine C.lmul d1_108 (pc' := 109) rfl ?_
            refine C.bipush d1_109 (v := 24) rfl (pc' := 111) rfl ?_
            refine C.lushr d1_111 (pc' := 112) rfl ?_
            refine C.l2i d1_112 (pc' := 113) rfl ?_
            refine C.sipush d1_113 (v := 1023) rfl (pc' := 116) rfl ?_
            refine C.iand d1_116 (pc' := 117) rfl ?_
            refine C.istore d1_117 (ls' := #[.val (.long w), .second, .val (.int (5 : Int32)), .val (.int (1 : Int32)), .val (.int (1 : Int32)), .val (.int x), .val (.int (x ^^^ (808333360 : Int32))), .val (.int ((((x ^^^ (808333360 : Int32)) &&& (-251662096 : Int32)) ||| (((x ^^^ (808333360 : Int32)) + (100664838 : Int32)) &&& (268439568 : Int32))) ||| (0 : Int32))), .val (.int (((XT.ushrL ((((x ^^^ (808333360 : Int32)) &&& (251662095 : Int32))).toInt64 * (1678376961 : Int64)) (24 : Int32))).toInt32 &&& (1023 : Int32)))]) rfl (pc' := 119) rfl ?_
            refine C.iload d1_119 rfl (pc' := 121) rfl ?_
            refine C.iloadN d1_121 rfl (pc' := 122) rfl ?_
            refine C.ineg d1_122 (pc' := 123) rfl ?_
            refine castI (show (-(1 : Int32)) = (-1 : Int32) from by decide) ?_
            refine C.ixor d1_123 (pc' := 124) rfl ?_
            refine C.iloadN d1_124 rfl (pc' := 125) rfl ?_
            refine C.iadd d1_125 (pc' := 126) rfl ?_
            exact C.ireturn d1_126 rfl (by decide) (by decide) ⟨(own_good5T hn hx' hq), rfl⟩
          · refine C.ldcI (i := 6) rfl d1_96 (pc' := 98) rfl ?_
            exact C.ireturn d1_98 rfl (by decide) (by decide) ⟨(own_bad5T hn hx' hq), rfl⟩
        · refine castI (show ((XT.ushrL (((w &&& (255 : Int64)) ^^^ (45 : Int64)) - (1 : Int64)) (63 : Int32))).toInt32 = (0 : Int32) from own_negF hn) ?_
          refine C.istoreN d1_28 (ls' := #[.val (.long w), .second, .val (.int (5 : Int32)), .val (.int (0 : Int32)), .unset, .unset, .unset, .unset, .unset]) rfl (pc' := 29) rfl ?_
          refine C.iloadN d1_29 rfl (pc' := 30) rfl ?_
          refine C.iconst d1_30 (v := 3) rfl (pc' := 31) rfl ?_
          refine C.isub d1_31 (pc' := 32) rfl ?_
          refine castI (show ((5 : Int32) - (3 : Int32)) = (2 : Int32) from by decide) ?_
          refine C.iloadN d1_32 rfl (pc' := 33) rfl ?_
          refine C.isub d1_33 (pc' := 34) rfl ?_
          refine castI (show ((2 : Int32) - (0 : Int32)) = (2 : Int32) from by decide) ?_
          refine C.istore d1_34 (ls' := #[.val (.long w), .second, .val (.int (5 : Int32)), .val (.int (0 : Int32)), .val (.int (2 : Int32)), .unset, .unset, .unset, .unset]) rfl (pc' := 36) rfl ?_
          refine C.lloadN d1_36 rfl (pc' := 37) rfl ?_
          refine C.iloadN d1_37 rfl (pc' := 38) rfl ?_
          refine C.bipush d1_38 (v := 45) rfl (pc' := 40) rfl ?_
          refine C.imul d1_40 (pc' := 41) rfl ?_
          refine castI (show ((0 : Int32) * (45 : Int32)) = (0 : Int32) from by decide) ?_
          refine C.i2l d1_41 (pc' := 42) rfl ?_
          refine castJ (show ((0 : Int32)).toInt64 = (0 : Int64) from by decide) ?_
          refine C.lxor d1_42 (pc' := 43) rfl ?_
          refine C.bipush d1_43 (v := 8) rfl (pc' := 45) rfl ?_
          refine C.lshl d1_45 (pc' := 46) rfl ?_
          refine C.bipush d1_46 (v := 8) rfl (pc' := 48) rfl ?_
          refine C.iloadN d1_48 rfl (pc' := 49) rfl ?_
          refine C.iconst d1_49 (v := 3) rfl (pc' := 50) rfl ?_
          refine C.isub d1_50 (pc' := 51) rfl ?_
          refine castI (show ((5 : Int32) - (3 : Int32)) = (2 : Int32) from by decide) ?_
          refine C.imul d1_51 (pc' := 52) rfl ?_
          refine castI (show ((8 : Int32) * (2 : Int32)) = (16 : Int32) from by decide) ?_
          refine C.lushr d1_52 (pc' := 53) rfl ?_
          refine C.l2i d1_53 (pc' := 54) rfl ?_
          obtain ⟨x, hx, hx'⟩ := own_last5F hn
          refine castI (show ((XT.ushrL ((w ^^^ (0 : Int64)) <<< (((8 : Int32)).toInt64 &&& 63)) (16 : Int32))).toInt32 = x from hx) ?_
          refine C.istore d1_54 (ls' := #[.val (.long w), .second, .val (.int (5 : Int32)), .val (.int (0 : Int32)), .val (.int (2 : Int32)), .val (.int x), .unset, .unset, .unset]) rfl (pc' := 56) rfl ?_
          refine C.iload d1_56 rfl (pc' := 58) rfl ?_
          refine C.ldcI (i := 17) rfl d1_58 (pc' := 60) rfl ?_
          refine C.iload d1_60 rfl (pc' := 62) rfl ?_
          refine C.bipush d1_62 (v := 48) rfl (pc' := 64) rfl ?_
          refine C.imul d1_64 (pc' := 65) rfl ?_
          refine castI (show ((2 : Int32) * (48 : Int32)) = (96 : Int32) from by decide) ?_
          refine C.ior d1_65 (pc' := 66) rfl ?_
          refine castI (show ((808333312 : Int32) ||| (96 : Int32)) = (808333408 : Int32) from by decide) ?_
          refine C.ixor d1_66 (pc' := 67) rfl ?_
          refine C.istore d1_67 (ls' := #[.val (.long w), .second, .val (.int (5 : Int32)), .val (.int (0 : Int32)), .val (.int (2 : Int32)), .val (.int x), .val (.int (x ^^^ (808333408 : Int32))), .unset, .unset]) rfl (pc' := 69) rfl ?_
          refine C.iload d1_69 rfl (pc' := 71) rfl ?_
          refine C.ldcI (i := 18) rfl d1_71 (pc' := 73) rfl ?_
          refine C.iand d1_73 (pc' := 74) rfl ?_
          refine C.iload d1_74 rfl (pc' := 76) rfl ?_
          refine C.ldcI (i := 19) rfl d1_76 (pc' := 78) rfl ?_
          refine C.iadd d1_78 (pc' := 79) rfl ?_
          refine C.ldcI (i := 20) rfl d1_79 (pc' := 81) rfl ?_
          refine C.iand d1_81 (pc' := 82) rfl ?_
          refine C.ior d1_82 (pc' := 83) rfl ?_
          refine C.iload d1_83 rfl (pc' := 85) rfl ?_
          refine C.bipush d1_85 (v := -2) rfl (pc' := 87) rfl ?_
          refine C.iand d1_87 (pc' := 88) rfl ?_
          refine castI (show ((2 : Int32) &&& (-2 : Int32)) = (2 : Int32) from by decide) ?_
          refine C.ior d1_88 (pc' := 89) rfl ?_
          refine C.istore d1_89 (ls' := #[.val (.long w), .second, .val (.int (5 : Int32)), .val (.int (0 : Int32)), .val (.int (2 : Int32)), .val (.int x), .val (.int (x ^^^ (808333408 : Int32))), .val (.int ((((x ^^^ (808333408 : Int32)) &&& (-251662096 : Int32)) ||| (((x ^^^ (808333408 : Int32)) + (100664838 : Int32)) &&& (268439568 : Int32))) ||| (2 : Int32))), .unset]) rfl (pc' := 91) rfl ?_
          refine C.iload d1_91 rfl (pc' := 93) rfl ?_
          refine C.if_eq_F d1_93 (own_or (by decide)) (pc' := 96) rfl ?_
          refine C.ldcI (i := 6) rfl d1_96 (pc' := 98) rfl ?_
          exact C.ireturn d1_98 rfl (by decide) (by decide) ⟨by simp [own_val, hn], rfl⟩
    · refine C.ldcI (i := 6) rfl d1_10 (pc' := 12) rfl ?_
      exact C.ireturn d1_12 rfl (by decide) (by decide) ⟨by rw [own_val_gt h2], rfl⟩
set_option maxRecDepth 65536 in
set_option maxHeartbeats 4000000 in
theorem c_law (l : Launch) (Z : State) (a0 : Array Value) (hw : ∀ d ∈ tables_1, d.before a0 Z = true) (wl : List Jvm.Cond) (n0 : Nat) (h : Heap) (raw : Int64) (ln d md : Int32) (hz : n0 ≤ h.size) :
    Ctr l Z x code maxLocals ret room_1 n0 #[(.long raw), (.int ln), (.int d), (.int md)] h (fun v _ => v = some (.int 1)) wl := by
  refine Ctr.of (ls := #[.val (.long raw), .second, .val (.int ln), .val (.int d), .val (.int md), .unset, .unset, .unset, .unset, .unset, .unset, .unset, .unset, .unset, .unset, .unset, .unset, .unset, .unset, .unset, .unset, .unset, .unset, .unset]) (by first | (exact plainFor_of_name (by first | (simp [plainName, overriddenIn]; done) | decide +kernel)) | decide +kernel) hw (fun m => entry_eq m (L1 := [.val (.long raw), .second, .val (.int ln), .val (.int d), .val (.int md)]) (k := 19) rfl rfl rfl) (fun G C => ?_)
  refine C.iloadN at_0 rfl (pc' := 1) rfl ?_
  refine C.iconst at_1 (v := 1) rfl (pc' := 2) rfl ?_
  refine C.iand at_2 (pc' := 3) rfl ?_
  refine C.istore at_3 (ls' := #[.val (.long raw), .second, .val (.int ln), .val (.int d), .val (.int md), .val (.int (d &&& (1 : Int32))), .unset, .unset, .unset, .unset, .unset, .unset, .unset, .unset, .unset, .unset, .unset, .unset, .unset, .unset, .unset, .unset, .unset, .unset]) rfl (pc' := 5) rfl ?_
  refine C.iloadN at_5 rfl (pc' := 6) rfl ?_
  refine C.iconst at_6 (v := 1) rfl (pc' := 7) rfl ?_
  refine C.iushr at_7 (pc' := 8) rfl ?_
  refine C.iconst at_8 (v := 1) rfl (pc' := 9) rfl ?_
  refine C.iand at_9 (pc' := 10) rfl ?_
  refine C.istore at_10 (ls' := #[.val (.long raw), .second, .val (.int ln), .val (.int d), .val (.int md), .val (.int (d &&& (1 : Int32))), .val (.int ((XT.ushr d (1 : Int32)) &&& (1 : Int32))), .unset, .unset, .unset, .unset, .unset, .unset, .unset, .unset, .unset, .unset, .unset, .unset, .unset, .unset, .unset, .unset, .unset]) rfl (pc' := 12) rfl ?_
  refine C.bipush at_12 (v := 48) rfl (pc' := 14) rfl ?_
  refine C.iloadN at_14 rfl (pc' := 15) rfl ?_
  refine C.iconst at_15 (v := 2) rfl (pc' := 16) rfl ?_
  refine C.iushr at_16 (pc' := 17) rfl ?_
  refine C.bipush at_17 (v := 15) rfl (pc' := 19) rfl ?_
  refine C.iand at_19 (pc' := 20) rfl ?_
  refine C.bipush at_20 (v := 10) rfl (pc' := 22) rfl ?_
  refine C.irem at_22 (by decide) (pc' := 23) rfl ?_
  refine C.iadd at_23 (pc' := 24) rfl ?_
  refine C.i2l at_24 (pc' := 25) rfl ?_
  refine C.lstore at_25 (ls' := #[.val (.long raw), .second, .val (.int ln), .val (.int d), .val (.int md), .val (.int (d &&& (1 : Int32))), .val (.int ((XT.ushr d (1 : Int32)) &&& (1 : Int32))), .val (.long (((48 : Int32) + (((XT.ushr d (2 : Int32)) &&& (15 : Int32)) % (10 : Int32)))).toInt64), .second, .unset, .unset, .unset, .unset, .unset, .unset, .unset, .unset, .unset, .unset, .unset, .unset, .unset, .unset, .unset]) rfl (pc' := 27) rfl ?_
  refine C.bipush at_27 (v := 48) rfl (pc' := 29) rfl ?_
  refine C.iloadN at_29 rfl (pc' := 30) rfl ?_
  refine C.bipush at_30 (v := 6) rfl (pc' := 32) rfl ?_
  refine C.iushr at_32 (pc' := 33) rfl ?_
  refine C.bipush at_33 (v := 15) rfl (pc' := 35) rfl ?_
  refine C.iand at_35 (pc' := 36) rfl ?_
  refine C.bipush at_36 (v := 10) rfl (pc' := 38) rfl ?_
  refine C.irem at_38 (by decide) (pc' := 39) rfl ?_
  refine C.iadd at_39 (pc' := 40) rfl ?_
  refine C.i2l at_40 (pc' := 41) rfl ?_
  refine C.lstore at_41 (ls' := #[.val (.long raw), .second, .val (.int ln), .val (.int d), .val (.int md), .val (.int (d &&& (1 : Int32))), .val (.int ((XT.ushr d (1 : Int32)) &&& (1 : Int32))), .val (.long (((48 : Int32) + (((XT.ushr d (2 : Int32)) &&& (15 : Int32)) % (10 : Int32)))).toInt64), .second, .val (.long (((48 : Int32) + (((XT.ushr d (6 : Int32)) &&& (15 : Int32)) % (10 : Int32)))).toInt64), .second, .unset, .unset, .unset, .unset, .unset, .unset, .unset, .unset, .unset, .unset, .unset, .unset, .unset]) rfl (pc' := 43) rfl ?_
  refine C.bipush at_43 (v := 48) rfl (pc' := 45) rfl ?_
  refine C.iloadN at_45 rfl (pc' := 46) rfl ?_
  refine C.bipush at_46 (v := 10) rfl (pc' := 48) rfl ?_
  refine C.iushr at_48 (pc' := 49) rfl ?_
  refine C.bipush at_49 (v := 15) rfl (pc' := 51) rfl ?_
  refine C.iand at_51 (pc' := 52) rfl ?_
  refine C.bipush at_52 (v := 10) rfl (pc' := 54) rfl ?_
  refine C.irem at_54 (by decide) (pc' := 55) rfl ?_
  refine C.iadd at_55 (pc' := 56) rfl ?_
  refine C.i2l at_56 (pc' := 57) rfl ?_
  refine C.lstore at_57 (ls' := #[.val (.long raw), .second, .val (.int ln), .val (.int d), .val (.int md), .val (.int (d &&& (1 : Int32))), .val (.int ((XT.ushr d (1 : Int32)) &&& (1 : Int32))), .val (.long (((48 : Int32) + (((XT.ushr d (2 : Int32)) &&& (15 : Int32)) % (10 : Int32)))).toInt64), .second, .val (.long (((48 : Int32) + (((XT.ushr d (6 : Int32)) &&& (15 : Int32)) % (10 : Int32)))).toInt64), .second, .val (.long (((48 : Int32) + (((XT.ushr d (10 : Int32)) &&& (15 : Int32)) % (10 : Int32)))).toInt64), .second, .unset, .unset, .unset, .unset, .unset, .unset, .unset, .unset, .unset, .unset, .unset]) rfl (pc' := 59) rfl ?_
  refine C.iload at_59 rfl (pc' := 61) rfl ?_
  suffices t101 : ∀ body : Int64, G h 0 0 101 #[.val (.long raw), .second, .val (.int ln), .val (.int d), .val (.int md), .val (.int (d &&& (1 : Int32))), .val (.int ((XT.ushr d (1 : Int32)) &&& (1 : Int32))), .val (.long (((48 : Int32) + (((XT.ushr d (2 : Int32)) &&& (15 : Int32)) % (10 : Int32)))).toInt64), .second, .val (.long (((48 : Int32) + (((XT.ushr d (6 : Int32)) &&& (15 : Int32)) % (10 : Int32)))).toInt64), .second, .val (.long (((48 : Int32) + (((XT.ushr d (10 : Int32)) &&& (15 : Int32)) % (10 : Int32)))).toInt64), .second, .val (.long body), .second, .unset, .unset, .unset, .unset, .unset, .unset, .unset, .unset, .unset] [] by
    refine C.if_eq at_61 (by decide) (pc1 := 87) rfl (pc2 := 64) rfl (fun hc => ?_) (fun hc => ?_)
    · refine C.lload at_87 rfl (pc' := 89) rfl ?_
      refine C.ldcJ (i := 0) rfl at_89 (pc' := 92) rfl ?_
      refine C.lor at_92 (pc' := 93) rfl ?_
      refine C.lload at_93 rfl (pc' := 95) rfl ?_
      refine C.bipush at_95 (v := 16) rfl (pc' := 97) rfl ?_
      refine C.lshl at_97 (pc' := 98) rfl ?_
      refine C.lor at_98 (pc' := 99) rfl ?_
      refine C.lstore at_99 (ls' := #[.val (.long raw), .second, .val (.int ln), .val (.int d), .val (.int md), .val (.int (d &&& (1 : Int32))), .val (.int ((XT.ushr d (1 : Int32)) &&& (1 : Int32))), .val (.long (((48 : Int32) + (((XT.ushr d (2 : Int32)) &&& (15 : Int32)) % (10 : Int32)))).toInt64), .second, .val (.long (((48 : Int32) + (((XT.ushr d (6 : Int32)) &&& (15 : Int32)) % (10 : Int32)))).toInt64), .second, .val (.long (((48 : Int32) + (((XT.ushr d (10 : Int32)) &&& (15 : Int32)) % (10 : Int32)))).toInt64), .second, .val (.long (((((48 : Int32) + (((XT.ushr d (6 : Int32)) &&& (15 : Int32)) % (10 : Int32)))).toInt64 ||| (11776 : Int64)) ||| ((((48 : Int32) + (((XT.ushr d (10 : Int32)) &&& (15 : Int32)) % (10 : Int32)))).toInt64 <<< (((16 : Int32)).toInt64 &&& 63)))), .second, .unset, .unset, .unset, .unset, .unset, .unset, .unset, .unset, .unset]) rfl (pc' := 101) rfl ?_
      exact t101 _
    · refine C.lload at_64 rfl (pc' := 66) rfl ?_
      refine C.lload at_66 rfl (pc' := 68) rfl ?_
      refine C.bipush at_68 (v := 8) rfl (pc' := 70) rfl ?_
      refine C.lshl at_70 (pc' := 71) rfl ?_
      refine C.lor at_71 (pc' := 72) rfl ?_
      refine C.ldcJ (i := 12) rfl at_72 (pc' := 75) rfl ?_
      refine C.lor at_75 (pc' := 76) rfl ?_
      refine C.lload at_76 rfl (pc' := 78) rfl ?_
      refine C.bipush at_78 (v := 24) rfl (pc' := 80) rfl ?_
      refine C.lshl at_80 (pc' := 81) rfl ?_
      refine C.lor at_81 (pc' := 82) rfl ?_
      refine C.lstore at_82 (ls' := #[.val (.long raw), .second, .val (.int ln), .val (.int d), .val (.int md), .val (.int (d &&& (1 : Int32))), .val (.int ((XT.ushr d (1 : Int32)) &&& (1 : Int32))), .val (.long (((48 : Int32) + (((XT.ushr d (2 : Int32)) &&& (15 : Int32)) % (10 : Int32)))).toInt64), .second, .val (.long (((48 : Int32) + (((XT.ushr d (6 : Int32)) &&& (15 : Int32)) % (10 : Int32)))).toInt64), .second, .val (.long (((48 : Int32) + (((XT.ushr d (10 : Int32)) &&& (15 : Int32)) % (10 : Int32)))).toInt64), .second, .val (.long ((((((48 : Int32) + (((XT.ushr d (2 : Int32)) &&& (15 : Int32)) % (10 : Int32)))).toInt64 ||| ((((48 : Int32) + (((XT.ushr d (6 : Int32)) &&& (15 : Int32)) % (10 : Int32)))).toInt64 <<< (((8 : Int32)).toInt64 &&& 63))) ||| (3014656 : Int64)) ||| ((((48 : Int32) + (((XT.ushr d (10 : Int32)) &&& (15 : Int32)) % (10 : Int32)))).toInt64 <<< (((24 : Int32)).toInt64 &&& 63)))), .second, .unset, .unset, .unset, .unset, .unset, .unset, .unset, .unset, .unset]) rfl (pc' := 84) rfl ?_
      refine C.goto at_84 (by decide) (pc' := 101) rfl ?_
      exact t101 _
  intro body
  refine C.iload at_101 rfl (pc' := 103) rfl ?_
  suffices t120 : ∀ canon : Int64, G h 0 0 120 #[.val (.long raw), .second, .val (.int ln), .val (.int d), .val (.int md), .val (.int (d &&& (1 : Int32))), .val (.int ((XT.ushr d (1 : Int32)) &&& (1 : Int32))), .val (.long (((48 : Int32) + (((XT.ushr d (2 : Int32)) &&& (15 : Int32)) % (10 : Int32)))).toInt64), .second, .val (.long (((48 : Int32) + (((XT.ushr d (6 : Int32)) &&& (15 : Int32)) % (10 : Int32)))).toInt64), .second, .val (.long (((48 : Int32) + (((XT.ushr d (10 : Int32)) &&& (15 : Int32)) % (10 : Int32)))).toInt64), .second, .val (.long body), .second, .unset, .unset, .unset, .unset, .unset, .unset, .unset, .unset, .unset] [(.long canon)] by
    refine C.if_eq at_103 (by decide) (pc1 := 118) rfl (pc2 := 106) rfl (fun hc => ?_) (fun hc => ?_)
    · refine C.lload at_118 rfl (pc' := 120) rfl ?_
      exact t120 _
    · refine C.ldcJ (i := 1) rfl at_106 (pc' := 109) rfl ?_
      refine C.lload at_109 rfl (pc' := 111) rfl ?_
      refine C.bipush at_111 (v := 8) rfl (pc' := 113) rfl ?_
      refine C.lshl at_113 (pc' := 114) rfl ?_
      refine C.lor at_114 (pc' := 115) rfl ?_
      refine C.goto at_115 (by decide) (pc' := 120) rfl ?_
      exact t120 _
  intro canon
  refine C.lstore at_120 (ls' := #[.val (.long raw), .second, .val (.int ln), .val (.int d), .val (.int md), .val (.int (d &&& (1 : Int32))), .val (.int ((XT.ushr d (1 : Int32)) &&& (1 : Int32))), .val (.long (((48 : Int32) + (((XT.ushr d (2 : Int32)) &&& (15 : Int32)) % (10 : Int32)))).toInt64), .second, .val (.long (((48 : Int32) + (((XT.ushr d (6 : Int32)) &&& (15 : Int32)) % (10 : Int32)))).toInt64), .second, .val (.long (((48 : Int32) + (((XT.ushr d (10 : Int32)) &&& (15 : Int32)) % (10 : Int32)))).toInt64), .second, .val (.long body), .second, .val (.long canon), .second, .unset, .unset, .unset, .unset, .unset, .unset, .unset]) rfl (pc' := 122) rfl ?_
  refine C.iconst at_122 (v := 3) rfl (pc' := 123) rfl ?_
  refine C.iload at_123 rfl (pc' := 125) rfl ?_
  refine C.iadd at_125 (pc' := 126) rfl ?_
  refine C.iload at_126 rfl (pc' := 128) rfl ?_
  refine C.iadd at_128 (pc' := 129) rfl ?_
  refine C.istore at_129 (ls' := #[.val (.long raw), .second, .val (.int ln), .val (.int d), .val (.int md), .val (.int (d &&& (1 : Int32))), .val (.int ((XT.ushr d (1 : Int32)) &&& (1 : Int32))), .val (.long (((48 : Int32) + (((XT.ushr d (2 : Int32)) &&& (15 : Int32)) % (10 : Int32)))).toInt64), .second, .val (.long (((48 : Int32) + (((XT.ushr d (6 : Int32)) &&& (15 : Int32)) % (10 : Int32)))).toInt64), .second, .val (.long (((48 : Int32) + (((XT.ushr d (10 : Int32)) &&& (15 : Int32)) % (10 : Int32)))).toInt64), .second, .val (.long body), .second, .val (.long canon), .second, .val (.int (((3 : Int32) + (d &&& (1 : Int32))) + ((XT.ushr d (1 : Int32)) &&& (1 : Int32)))), .unset, .unset, .unset, .unset, .unset, .unset]) rfl (pc' := 131) rfl ?_
  refine C.iload at_131 rfl (pc' := 133) rfl ?_
  refine C.iconst at_133 (v := 3) rfl (pc' := 134) rfl ?_
  refine C.iand at_134 (pc' := 135) rfl ?_
  refine C.istore at_135 (ls' := #[.val (.long raw), .second, .val (.int ln), .val (.int d), .val (.int md), .val (.int (d &&& (1 : Int32))), .val (.int ((XT.ushr d (1 : Int32)) &&& (1 : Int32))), .val (.long (((48 : Int32) + (((XT.ushr d (2 : Int32)) &&& (15 : Int32)) % (10 : Int32)))).toInt64), .second, .val (.long (((48 : Int32) + (((XT.ushr d (6 : Int32)) &&& (15 : Int32)) % (10 : Int32)))).toInt64), .second, .val (.long (((48 : Int32) + (((XT.ushr d (10 : Int32)) &&& (15 : Int32)) % (10 : Int32)))).toInt64), .second, .val (.long body), .second, .val (.long canon), .second, .val (.int (((3 : Int32) + (d &&& (1 : Int32))) + ((XT.ushr d (1 : Int32)) &&& (1 : Int32)))), .val (.int (md &&& (3 : Int32))), .unset, .unset, .unset, .unset, .unset]) rfl (pc' := 137) rfl ?_
  refine C.iload at_137 rfl (pc' := 139) rfl ?_
  refine C.iconst at_139 (v := 2) rfl (pc' := 140) rfl ?_
  refine C.iushr at_140 (pc' := 141) rfl ?_
  refine C.bipush at_141 (v := 7) rfl (pc' := 143) rfl ?_
  refine C.iand at_143 (pc' := 144) rfl ?_
  refine C.istore at_144 (ls' := #[.val (.long raw), .second, .val (.int ln), .val (.int d), .val (.int md), .val (.int (d &&& (1 : Int32))), .val (.int ((XT.ushr d (1 : Int32)) &&& (1 : Int32))), .val (.long (((48 : Int32) + (((XT.ushr d (2 : Int32)) &&& (15 : Int32)) % (10 : Int32)))).toInt64), .second, .val (.long (((48 : Int32) + (((XT.ushr d (6 : Int32)) &&& (15 : Int32)) % (10 : Int32)))).toInt64), .second, .val (.long (((48 : Int32) + (((XT.ushr d (10 : Int32)) &&& (15 : Int32)) % (10 : Int32)))).toInt64), .second, .val (.long body), .second, .val (.long canon), .second, .val (.int (((3 : Int32) + (d &&& (1 : Int32))) + ((XT.ushr d (1 : Int32)) &&& (1 : Int32)))), .val (.int (md &&& (3 : Int32))), .val (.int ((XT.ushr md (2 : Int32)) &&& (7 : Int32))), .unset, .unset, .unset, .unset]) rfl (pc' := 146) rfl ?_
  refine C.iload at_146 rfl (pc' := 148) rfl ?_
  refine C.iconst at_148 (v := 5) rfl (pc' := 149) rfl ?_
  refine C.iushr at_149 (pc' := 150) rfl ?_
  refine C.iconst at_150 (v := 3) rfl (pc' := 151) rfl ?_
  refine C.iand at_151 (pc' := 152) rfl ?_
  refine C.istore at_152 (ls' := #[.val (.long raw), .second, .val (.int ln), .val (.int d), .val (.int md), .val (.int (d &&& (1 : Int32))), .val (.int ((XT.ushr d (1 : Int32)) &&& (1 : Int32))), .val (.long (((48 : Int32) + (((XT.ushr d (2 : Int32)) &&& (15 : Int32)) % (10 : Int32)))).toInt64), .second, .val (.long (((48 : Int32) + (((XT.ushr d (6 : Int32)) &&& (15 : Int32)) % (10 : Int32)))).toInt64), .second, .val (.long (((48 : Int32) + (((XT.ushr d (10 : Int32)) &&& (15 : Int32)) % (10 : Int32)))).toInt64), .second, .val (.long body), .second, .val (.long canon), .second, .val (.int (((3 : Int32) + (d &&& (1 : Int32))) + ((XT.ushr d (1 : Int32)) &&& (1 : Int32)))), .val (.int (md &&& (3 : Int32))), .val (.int ((XT.ushr md (2 : Int32)) &&& (7 : Int32))), .val (.int ((XT.ushr md (5 : Int32)) &&& (3 : Int32))), .unset, .unset, .unset]) rfl (pc' := 154) rfl ?_
  refine C.iload at_154 rfl (pc' := 156) rfl ?_
  suffices t184 : ∀ len : Int32, G h 0 0 184 #[.val (.long raw), .second, .val (.int ln), .val (.int d), .val (.int md), .val (.int (d &&& (1 : Int32))), .val (.int ((XT.ushr d (1 : Int32)) &&& (1 : Int32))), .val (.long (((48 : Int32) + (((XT.ushr d (2 : Int32)) &&& (15 : Int32)) % (10 : Int32)))).toInt64), .second, .val (.long (((48 : Int32) + (((XT.ushr d (6 : Int32)) &&& (15 : Int32)) % (10 : Int32)))).toInt64), .second, .val (.long (((48 : Int32) + (((XT.ushr d (10 : Int32)) &&& (15 : Int32)) % (10 : Int32)))).toInt64), .second, .val (.long body), .second, .val (.long canon), .second, .val (.int (((3 : Int32) + (d &&& (1 : Int32))) + ((XT.ushr d (1 : Int32)) &&& (1 : Int32)))), .val (.int (md &&& (3 : Int32))), .val (.int ((XT.ushr md (2 : Int32)) &&& (7 : Int32))), .val (.int ((XT.ushr md (5 : Int32)) &&& (3 : Int32))), .val (.int len), .unset, .unset] [] by
    refine C.if_ne at_156 (by decide) (pc1 := 165) rfl (pc2 := 159) rfl (fun hc => ?_) (fun hc => ?_)
    · refine C.iload at_165 rfl (pc' := 167) rfl ?_
      refine C.iconst at_167 (v := 1) rfl (pc' := 168) rfl ?_
      refine C.icmp_ne at_168 (by decide) (pc1 := 180) rfl (pc2 := 171) rfl (fun hd => ?_) (fun hd => ?_)
      · refine C.iload at_180 rfl (pc' := 182) rfl ?_
        refine C.istore at_182 (ls' := #[.val (.long raw), .second, .val (.int ln), .val (.int d), .val (.int md), .val (.int (d &&& (1 : Int32))), .val (.int ((XT.ushr d (1 : Int32)) &&& (1 : Int32))), .val (.long (((48 : Int32) + (((XT.ushr d (2 : Int32)) &&& (15 : Int32)) % (10 : Int32)))).toInt64), .second, .val (.long (((48 : Int32) + (((XT.ushr d (6 : Int32)) &&& (15 : Int32)) % (10 : Int32)))).toInt64), .second, .val (.long (((48 : Int32) + (((XT.ushr d (10 : Int32)) &&& (15 : Int32)) % (10 : Int32)))).toInt64), .second, .val (.long body), .second, .val (.long canon), .second, .val (.int (((3 : Int32) + (d &&& (1 : Int32))) + ((XT.ushr d (1 : Int32)) &&& (1 : Int32)))), .val (.int (md &&& (3 : Int32))), .val (.int ((XT.ushr md (2 : Int32)) &&& (7 : Int32))), .val (.int ((XT.ushr md (5 : Int32)) &&& (3 : Int32))), .val (.int (((3 : Int32) + (d &&& (1 : Int32))) + ((XT.ushr d (1 : Int32)) &&& (1 : Int32)))), .unset, .unset]) rfl (pc' := 184) rfl ?_
        exact t184 _
      · refine C.iloadN at_171 rfl (pc' := 172) rfl ?_
        refine C.bipush at_172 (v := 7) rfl (pc' := 174) rfl ?_
        refine C.iand at_174 (pc' := 175) rfl ?_
        refine C.istore at_175 (ls' := #[.val (.long raw), .second, .val (.int ln), .val (.int d), .val (.int md), .val (.int (d &&& (1 : Int32))), .val (.int ((XT.ushr d (1 : Int32)) &&& (1 : Int32))), .val (.long (((48 : Int32) + (((XT.ushr d (2 : Int32)) &&& (15 : Int32)) % (10 : Int32)))).toInt64), .second, .val (.long (((48 : Int32) + (((XT.ushr d (6 : Int32)) &&& (15 : Int32)) % (10 : Int32)))).toInt64), .second, .val (.long (((48 : Int32) + (((XT.ushr d (10 : Int32)) &&& (15 : Int32)) % (10 : Int32)))).toInt64), .second, .val (.long body), .second, .val (.long canon), .second, .val (.int (((3 : Int32) + (d &&& (1 : Int32))) + ((XT.ushr d (1 : Int32)) &&& (1 : Int32)))), .val (.int (md &&& (3 : Int32))), .val (.int ((XT.ushr md (2 : Int32)) &&& (7 : Int32))), .val (.int ((XT.ushr md (5 : Int32)) &&& (3 : Int32))), .val (.int (ln &&& (7 : Int32))), .unset, .unset]) rfl (pc' := 177) rfl ?_
        refine C.goto at_177 (by decide) (pc' := 184) rfl ?_
        exact t184 _
    · refine C.iloadN at_159 rfl (pc' := 160) rfl ?_
      refine C.istore at_160 (ls' := #[.val (.long raw), .second, .val (.int ln), .val (.int d), .val (.int md), .val (.int (d &&& (1 : Int32))), .val (.int ((XT.ushr d (1 : Int32)) &&& (1 : Int32))), .val (.long (((48 : Int32) + (((XT.ushr d (2 : Int32)) &&& (15 : Int32)) % (10 : Int32)))).toInt64), .second, .val (.long (((48 : Int32) + (((XT.ushr d (6 : Int32)) &&& (15 : Int32)) % (10 : Int32)))).toInt64), .second, .val (.long (((48 : Int32) + (((XT.ushr d (10 : Int32)) &&& (15 : Int32)) % (10 : Int32)))).toInt64), .second, .val (.long body), .second, .val (.long canon), .second, .val (.int (((3 : Int32) + (d &&& (1 : Int32))) + ((XT.ushr d (1 : Int32)) &&& (1 : Int32)))), .val (.int (md &&& (3 : Int32))), .val (.int ((XT.ushr md (2 : Int32)) &&& (7 : Int32))), .val (.int ((XT.ushr md (5 : Int32)) &&& (3 : Int32))), .val (.int ln), .unset, .unset]) rfl (pc' := 162) rfl ?_
      refine C.goto at_162 (by decide) (pc' := 184) rfl ?_
      exact t184 _
  intro len
  refine C.iload at_184 rfl (pc' := 186) rfl ?_
  suffices t271 : ∀ bytes : Int64, G h 0 0 271 #[.val (.long raw), .second, .val (.int ln), .val (.int d), .val (.int md), .val (.int (d &&& (1 : Int32))), .val (.int ((XT.ushr d (1 : Int32)) &&& (1 : Int32))), .val (.long (((48 : Int32) + (((XT.ushr d (2 : Int32)) &&& (15 : Int32)) % (10 : Int32)))).toInt64), .second, .val (.long (((48 : Int32) + (((XT.ushr d (6 : Int32)) &&& (15 : Int32)) % (10 : Int32)))).toInt64), .second, .val (.long (((48 : Int32) + (((XT.ushr d (10 : Int32)) &&& (15 : Int32)) % (10 : Int32)))).toInt64), .second, .val (.long body), .second, .val (.long canon), .second, .val (.int (((3 : Int32) + (d &&& (1 : Int32))) + ((XT.ushr d (1 : Int32)) &&& (1 : Int32)))), .val (.int (md &&& (3 : Int32))), .val (.int ((XT.ushr md (2 : Int32)) &&& (7 : Int32))), .val (.int ((XT.ushr md (5 : Int32)) &&& (3 : Int32))), .val (.int len), .val (.long bytes), .second] [] by
    refine C.if_ne at_186 (by decide) (pc1 := 195) rfl (pc2 := 189) rfl (fun hc => ?_) (fun hc => ?_)
    · refine C.iload at_195 rfl (pc' := 197) rfl ?_
      refine C.iconst at_197 (v := 1) rfl (pc' := 198) rfl ?_
      refine C.icmp_ne at_198 (by decide) (pc1 := 216) rfl (pc2 := 201) rfl (fun hd => ?_) (fun hd => ?_)
      · refine C.iload at_216 rfl (pc' := 218) rfl ?_
        refine C.iconst at_218 (v := 2) rfl (pc' := 219) rfl ?_
        refine C.icmp_ne at_219 (by decide) (pc1 := 241) rfl (pc2 := 222) rfl (fun he => ?_) (fun he => ?_)
        · refine C.lload at_241 rfl (pc' := 243) rfl ?_
          refine C.ldcJ (i := 13) rfl at_243 (pc' := 246) rfl ?_
          refine C.bipush at_246 (v := 8) rfl (pc' := 248) rfl ?_
          refine C.iload at_248 rfl (pc' := 250) rfl ?_
          refine C.imul at_250 (pc' := 251) rfl ?_
          refine C.lshl at_251 (pc' := 252) rfl ?_
          refine C.ldcJ (i := 14) rfl at_252 (pc' := 255) rfl ?_
          refine C.lxor at_255 (pc' := 256) rfl ?_
          refine C.land at_256 (pc' := 257) rfl ?_
          refine C.lloadN at_257 rfl (pc' := 258) rfl ?_
          refine C.ldcJ (i := 13) rfl at_258 (pc' := 261) rfl ?_
          refine C.land at_261 (pc' := 262) rfl ?_
          refine C.bipush at_262 (v := 8) rfl (pc' := 264) rfl ?_
          refine C.iload at_264 rfl (pc' := 266) rfl ?_
          refine C.imul at_266 (pc' := 267) rfl ?_
          refine C.lshl at_267 (pc' := 268) rfl ?_
          refine C.lor at_268 (pc' := 269) rfl ?_
          refine C.lstore at_269 (ls' := #[.val (.long raw), .second, .val (.int ln), .val (.int d), .val (.int md), .val (.int (d &&& (1 : Int32))), .val (.int ((XT.ushr d (1 : Int32)) &&& (1 : Int32))), .val (.long (((48 : Int32) + (((XT.ushr d (2 : Int32)) &&& (15 : Int32)) % (10 : Int32)))).toInt64), .second, .val (.long (((48 : Int32) + (((XT.ushr d (6 : Int32)) &&& (15 : Int32)) % (10 : Int32)))).toInt64), .second, .val (.long (((48 : Int32) + (((XT.ushr d (10 : Int32)) &&& (15 : Int32)) % (10 : Int32)))).toInt64), .second, .val (.long body), .second, .val (.long canon), .second, .val (.int (((3 : Int32) + (d &&& (1 : Int32))) + ((XT.ushr d (1 : Int32)) &&& (1 : Int32)))), .val (.int (md &&& (3 : Int32))), .val (.int ((XT.ushr md (2 : Int32)) &&& (7 : Int32))), .val (.int ((XT.ushr md (5 : Int32)) &&& (3 : Int32))), .val (.int len), .val (.long ((canon &&& (((255 : Int64) <<< ((((8 : Int32) * ((XT.ushr md (2 : Int32)) &&& (7 : Int32)))).toInt64 &&& 63)) ^^^ (-1 : Int64))) ||| ((raw &&& (255 : Int64)) <<< ((((8 : Int32) * ((XT.ushr md (2 : Int32)) &&& (7 : Int32)))).toInt64 &&& 63)))), .second]) rfl (pc' := 271) rfl ?_
          exact t271 _
        · refine C.lload at_222 rfl (pc' := 224) rfl ?_
          refine C.lloadN at_224 rfl (pc' := 225) rfl ?_
          refine C.ldcJ (i := 13) rfl at_225 (pc' := 228) rfl ?_
          refine C.land at_228 (pc' := 229) rfl ?_
          refine C.bipush at_229 (v := 8) rfl (pc' := 231) rfl ?_
          refine C.iload at_231 rfl (pc' := 233) rfl ?_
          refine C.imul at_233 (pc' := 234) rfl ?_
          refine C.lshl at_234 (pc' := 235) rfl ?_
          refine C.lxor at_235 (pc' := 236) rfl ?_
          refine C.lstore at_236 (ls' := #[.val (.long raw), .second, .val (.int ln), .val (.int d), .val (.int md), .val (.int (d &&& (1 : Int32))), .val (.int ((XT.ushr d (1 : Int32)) &&& (1 : Int32))), .val (.long (((48 : Int32) + (((XT.ushr d (2 : Int32)) &&& (15 : Int32)) % (10 : Int32)))).toInt64), .second, .val (.long (((48 : Int32) + (((XT.ushr d (6 : Int32)) &&& (15 : Int32)) % (10 : Int32)))).toInt64), .second, .val (.long (((48 : Int32) + (((XT.ushr d (10 : Int32)) &&& (15 : Int32)) % (10 : Int32)))).toInt64), .second, .val (.long body), .second, .val (.long canon), .second, .val (.int (((3 : Int32) + (d &&& (1 : Int32))) + ((XT.ushr d (1 : Int32)) &&& (1 : Int32)))), .val (.int (md &&& (3 : Int32))), .val (.int ((XT.ushr md (2 : Int32)) &&& (7 : Int32))), .val (.int ((XT.ushr md (5 : Int32)) &&& (3 : Int32))), .val (.int len), .val (.long (canon ^^^ ((raw &&& (255 : Int64)) <<< ((((8 : Int32) * ((XT.ushr md (2 : Int32)) &&& (7 : Int32)))).toInt64 &&& 63)))), .second]) rfl (pc' := 238) rfl ?_
          refine C.goto at_238 (by decide) (pc' := 271) rfl ?_
          exact t271 _
      · refine C.lload at_201 rfl (pc' := 203) rfl ?_
        refine C.lloadN at_203 rfl (pc' := 204) rfl ?_
        refine C.bipush at_204 (v := 8) rfl (pc' := 206) rfl ?_
        refine C.iload at_206 rfl (pc' := 208) rfl ?_
        refine C.imul at_208 (pc' := 209) rfl ?_
        refine C.lshl at_209 (pc' := 210) rfl ?_
        refine C.lor at_210 (pc' := 211) rfl ?_
        refine C.lstore at_211 (ls' := #[.val (.long raw), .second, .val (.int ln), .val (.int d), .val (.int md), .val (.int (d &&& (1 : Int32))), .val (.int ((XT.ushr d (1 : Int32)) &&& (1 : Int32))), .val (.long (((48 : Int32) + (((XT.ushr d (2 : Int32)) &&& (15 : Int32)) % (10 : Int32)))).toInt64), .second, .val (.long (((48 : Int32) + (((XT.ushr d (6 : Int32)) &&& (15 : Int32)) % (10 : Int32)))).toInt64), .second, .val (.long (((48 : Int32) + (((XT.ushr d (10 : Int32)) &&& (15 : Int32)) % (10 : Int32)))).toInt64), .second, .val (.long body), .second, .val (.long canon), .second, .val (.int (((3 : Int32) + (d &&& (1 : Int32))) + ((XT.ushr d (1 : Int32)) &&& (1 : Int32)))), .val (.int (md &&& (3 : Int32))), .val (.int ((XT.ushr md (2 : Int32)) &&& (7 : Int32))), .val (.int ((XT.ushr md (5 : Int32)) &&& (3 : Int32))), .val (.int len), .val (.long (canon ||| (raw <<< ((((8 : Int32) * (((3 : Int32) + (d &&& (1 : Int32))) + ((XT.ushr d (1 : Int32)) &&& (1 : Int32))))).toInt64 &&& 63)))), .second]) rfl (pc' := 213) rfl ?_
        refine C.goto at_213 (by decide) (pc' := 271) rfl ?_
        exact t271 _
    · refine C.lloadN at_189 rfl (pc' := 190) rfl ?_
      refine C.lstore at_190 (ls' := #[.val (.long raw), .second, .val (.int ln), .val (.int d), .val (.int md), .val (.int (d &&& (1 : Int32))), .val (.int ((XT.ushr d (1 : Int32)) &&& (1 : Int32))), .val (.long (((48 : Int32) + (((XT.ushr d (2 : Int32)) &&& (15 : Int32)) % (10 : Int32)))).toInt64), .second, .val (.long (((48 : Int32) + (((XT.ushr d (6 : Int32)) &&& (15 : Int32)) % (10 : Int32)))).toInt64), .second, .val (.long (((48 : Int32) + (((XT.ushr d (10 : Int32)) &&& (15 : Int32)) % (10 : Int32)))).toInt64), .second, .val (.long body), .second, .val (.long canon), .second, .val (.int (((3 : Int32) + (d &&& (1 : Int32))) + ((XT.ushr d (1 : Int32)) &&& (1 : Int32)))), .val (.int (md &&& (3 : Int32))), .val (.int ((XT.ushr md (2 : Int32)) &&& (7 : Int32))), .val (.int ((XT.ushr md (5 : Int32)) &&& (3 : Int32))), .val (.int len), .val (.long raw), .second]) rfl (pc' := 192) rfl ?_
      refine C.goto at_192 (by decide) (pc' := 271) rfl ?_
      exact t271 _
  intro bytes
  refine C.lload at_271 rfl (pc' := 273) rfl ?_
  refine C.iload at_273 rfl (pc' := 275) rfl ?_
  refine C.callSP (c_parse l Z a0 hw [] n0 h bytes len) (i1 := 2) (i2 := 3) (i3 := 4) (i4 := 5) rfl rfl rfl rfl (by decide) pd_1 rfl (argsL := [(.long bytes), (.int len)]) rfl (rest := []) rfl rfl (W := 0) rfl (by decide) (by decide) (by decide) (by decide) at_275 (pc' := 278) rfl (k' := 0) rfl (n' := 0) rfl ?_
  refine C.lload at_278 rfl (pc' := 280) rfl ?_
  refine C.iload at_280 rfl (pc' := 282) rfl ?_
  refine C.callS (c_ref l Z a0 hw [] n0 h bytes len hz) (i1 := 7) (i2 := 8) (i3 := 9) (i4 := 10) rfl rfl rfl rfl (by decide) pd_1 rfl (argsL := [(.long bytes), (.int len)]) rfl (rest := [(.int (own_val (own_b0 bytes) (own_b bytes 8) (own_b bytes 16) (own_b bytes 24) (own_b bytes 32) len))]) rfl rfl (W := 1) rfl (by decide) (by decide) (by decide) (by decide) at_282 (pc' := 285) rfl (k' := 1) rfl (n' := 5) rfl ?_
  rintro _ h9 rfl
  refine C.icmp_ne_F at_285 rfl (pc' := 288) rfl ?_
  refine C.iconst at_288 (v := 1) rfl (pc' := 289) rfl ?_
  refine C.goto at_289 (by decide) (pc' := 293) rfl ?_
  exact C.nreturn (b := (1 : Int32)) at_293 rfl (by simp) (by decide) (by decide) rfl rfl
set_option maxRecDepth 65536 in
set_option maxHeartbeats 4000000 in
theorem comes_1 {Post : Tables → Env → Array Value → State → Outcome → State → Prop} (hpost : ∀ tb e args s v u, (limb_1_1.after args s (.returned v) u = true ∧ limb_1_2.after args s (.returned v) u = true ∧ True) → FrameEnd s (.returned v) u (Jvm.fieldLocs frame_1_writes args s ++ Jvm.arrayLocs frame_1_arrays args s ++ Jvm.staticLocs frame_1_statics s) 16 128 → Post tb e args s (.returned v) u) :
    ArmFor flags0 classFile x code maxLocals ret World_1 tables_1 room_1 Calls_1 rest_1 Pre_1 Post := by
  intro l hfl _ _ p e ha hc hk s m args below hf hA hF happ hP
  obtain ⟨hcalls, hrest, hpre⟩ := hP
  obtain ⟨-, -, -, hnamed, -, -, -, hat⟩ := (Spec.applies_iff hf).mp happ
  obtain ⟨hg, hn⟩ := and_e (Cond.before_iff.mp (show (Jvm.Cond.and given_1 narrow_1).before args s = true from hpre))
  obtain ⟨hcount, hb0⟩ := and_e hg
  obtain ⟨ha0, hb1⟩ := and_e hb0
  obtain ⟨ha1, hb2⟩ := and_e hb1
  obtain ⟨ha2, hb3⟩ := and_e hb2
  obtain ⟨w0, w1, w2, w3, rfl⟩ : ∃ w0 w1 w2 w3 : Value, args = #[w0, w1, w2, w3] := by
    have hs : args.size = 4 := by simpa [Cond.value, given_1] using hcount
    obtain ⟨L⟩ := args
    match L, hs with
    | [w0, w1, w2, w3], _ => exact ⟨w0, w1, w2, w3, rfl⟩
  have hw := fun d (hd : d ∈ tables_1) => atoms_spec (ws := Jvm.Cond.code x code maxLocals ret :: tables_1) hat d (List.mem_cons_of_mem _ hd)
  obtain ⟨i0, e0⟩ := isL_v ha0
  obtain rfl : w0 = (.long i0) := Option.some.inj e0
  obtain ⟨i1, e1⟩ := is_v ha1
  obtain rfl : w1 = (.int i1) := Option.some.inj e1
  obtain ⟨i2, e2⟩ := is_v ha2
  obtain rfl : w2 = (.int i2) := Option.some.inj e2
  obtain ⟨i3, e3⟩ := is_v hb3
  obtain rfl : w3 = (.int i3) := Option.some.inj e3
  obtain ⟨n, o, h1, h2, h3, _, L, rfl, ⟨rfl, N⟩, hq⟩ := c_law l s _ hw tables_1 s.heap.size s.heap i0 i1 i2 i3 (Nat.le_refl _) p e ha hc hk s m _ below hf ((Spec.applies_iff_loose hf).mp happ).1 ⟨rfl, State.Warmed39.refl s, rfl⟩ trivial
  refine ⟨n, _, h1, h2, h3, hpost _ _ _ _ _ _ ⟨Cond.after_iff.mpr rfl, Cond.after_iff.mpr (eq_i res_at (Term.int_eval (1)) rfl), trivial⟩ ⟨hq.1, hq.2.1, (hq.2.2.sift fun y hy => Or.inr (N y hy)).mono (by decide) (by decide)⟩⟩
theorem main_1_1 : Claimed_1_1 := comes_1 fun _ _ _ _ _ _ h hF => ⟨h.1, hF⟩
theorem main_1_2 : Claimed_1_2 := comes_1 fun _ _ _ _ _ _ h hF => ⟨h.2.1, hF⟩
end Jvm.Pilot.@@N@@
namespace Jvm.Pilot.@@N@@
open Jvm Jvm.ClassFile Sem Op Lib Jvm.Free Jvm.Stand Jvm.Pilot.@@N@@.Jvm.D
/-! MADE BY PROGRAM (witnessworld.py) out of the Statement's table words and the real class files: 9 classes; the members and pool entries that the words name. The judged class is class 1, her method 1. -/
namespace start1
open Jvm.ClassFile
def u (s : String) : CpInfo := .utf8 (stringToUtf16 s)
/-- a pool by its gaps: so many unusable entries, then the entry; so many at the end -/
def gap : Nat → List CpInfo → List CpInfo
  | 0, r => r
  | n + 1, r => .unusable :: gap n r
def poolList (es : List (Nat × CpInfo)) (last : Nat) : List CpInfo := es.foldr (fun e r => gap e.1 (e.2 :: r)) (gap last [])
def pool (es : List (Nat × CpInfo)) (last : Nat) : Array CpInfo := ⟨poolList es last⟩
def fileOf (pool : Array CpInfo) (this : Nat) (attrs : Array Attribute := #[]) (ms : Array MethodInfo := #[]) (fl : Nat := 33) (sup : Nat := 0) (ifs : Array Nat := #[]) (fds : Array FieldInfo := #[]) : ClassFile where
  minorVersion := 0
  majorVersion := 65
  constantPool := pool
  accessFlags := fl
  thisClass := this
  superClass := sup
  interfaces := ifs
  fields := fds
  methods := ms
  attributes := attrs
def plain (name : String) (sup : Option ClassId) : Class where
  name := name
  kind := .ordinary
  loader := none
  accessFlags := 33
  super := sup
  interfaces := #[]
  cf := none
  fields := #[]
  methods := #[]
  instanceTypes := #[]
  staticTypes := #[]
  resolved := #[]
  callSites := []
  init := .initialized
  statics := none
  mirror := none

def pool0 : Array CpInfo := pool [(5, u "<init>"), (0, u "()V"), (1, .class_ 10), (1, u "java/lang/Object")] 113

def k0m0 : Method := { name := "<init>", desc := "()V", sig := { parameters := [], returnType := none }, accessFlags := 1, code := none }
/-- java/lang/Object -/
def k0 : Class := { plain "java/lang/Object" none with
  accessFlags := 33
  interfaces := #[]
  cf := some (fileOf pool0 8 #[] #[{ accessFlags := 1, nameIndex := 5, descriptorIndex := 6, attributes := #[] }] 33 0 #[] #[])
  fields := #[]
  methods := #[k0m0]
  instanceTypes := #[]
  staticTypes := #[]
  resolved := Array.replicate 124 none
  statics := none }

def pool1 : Array CpInfo := pool [(2, .class_ 4), (1, u "java/lang/Object"), (0, u "<init>"), (0, u "()V"), (0, .long 3014656), (1, .long 11776), (1, .long 45), (1, .long 255), (1, .long 18446744073709551615), (1, .methodref 18 19), (0, .class_ 20), (0, .nameAndType 21 22), (0, u "com/example/nanoparse/nanoparse/Decimals"), (0, u "parseTenths"), (0, u "(JI)I"), (0, .methodref 24 25), (0, .class_ 26), (0, .nameAndType 27 22), (0, u "com/example/nanoparse/nanoparse/DecimalsParseTenthsPinLaw"), (0, u "reference"), (0, .integer 2147483648), (0, .methodref 24 30), (0, .nameAndType 31 32), (0, u "isDigit"), (0, u "(I)Z"), (2, u "law"), (0, u "(JIII)Z")] 5

def k1m0 : Method := { name := "<init>", desc := "()V", sig := { parameters := [], returnType := none }, accessFlags := 2, code := none }
def k1c1 : Code := { maxStack := 6, maxLocals := 24, code := code, exceptionTable := #[], attributes := #[] }
def k1m1 : Method := { name := "law", desc := "(JIII)Z", sig := { parameters := [.long, .int, .int, .int], returnType := some .boolean }, accessFlags := 9, code := some k1c1 }
def k1c2 : Code := { maxStack := 2, maxLocals := 1, code := method_3_code, exceptionTable := #[], attributes := #[] }
def k1m2 : Method := { name := "isDigit", desc := "(I)Z", sig := { parameters := [.int], returnType := some .boolean }, accessFlags := 10, code := some k1c2 }
def k1c3 : Code := { maxStack := 6, maxLocals := 8, code := method_4_code, exceptionTable := #[], attributes := #[] }
def k1m3 : Method := { name := "reference", desc := "(JI)I", sig := { parameters := [.long, .int], returnType := some .int }, accessFlags := 10, code := some k1c3 }
/-- com/example/nanoparse/nanoparse/DecimalsParseTenthsPinLaw -/
def k1 : Class := { plain "com/example/nanoparse/nanoparse/DecimalsParseTenthsPinLaw" (some 0) with
  accessFlags := 49
  interfaces := #[]
  cf := some (fileOf pool1 24 #[] #[{ accessFlags := 2, nameIndex := 5, descriptorIndex := 6, attributes := #[] }, { accessFlags := 9, nameIndex := 35, descriptorIndex := 36, attributes := #[] }, { accessFlags := 10, nameIndex := 31, descriptorIndex := 32, attributes := #[] }, { accessFlags := 10, nameIndex := 27, descriptorIndex := 22, attributes := #[] }] 49 2 #[] #[])
  fields := #[]
  methods := #[k1m0, k1m1, k1m2, k1m3]
  instanceTypes := #[]
  staticTypes := #[]
  resolved := Array.replicate 42 none
  statics := none }

def pool2 : Array CpInfo := pool [(3, .class_ 4), (0, u "com/example/nanoparse/nanoparse/Decimals"), (1, .class_ 8), (1, u "java/lang/Object"), (0, u "<init>"), (0, u "()V"), (0, .integer 2147483648), (8, u "parseTenths"), (11, u "(JI)I"), (0, .long 255), (1, .long 45), (3, .integer 808333312), (0, .integer 4043305200), (0, .integer 100664838), (0, .integer 268439568), (0, .integer 251662095), (0, .long 1678376961), (27, u "INVALID"), (0, u "I"), (1, u "MIN_TENTHS"), (1, u "MAX_TENTHS"), (1, u "SHORT_BODY"), (1, u "LONG_BODY"), (1, u "LONGEST"), (1, u "SHORT_PATTERN"), (0, u "TENS_DIGIT"), (1, u "NOT_DIGIT_BITS"), (0, u "DIGIT_CARRY"), (0, u "CARRY_BITS"), (0, u "DIGITS"), (0, u "DIGIT_WEIGHTS"), (0, u "J"), (0, u "TENTHS_MASK")] 30

def k2m0 : Method := { name := "<init>", desc := "()V", sig := { parameters := [], returnType := none }, accessFlags := 2, code := none }
def k2c1 : Code := { maxStack := 5, maxLocals := 9, code := prog_8_method_6_code, exceptionTable := #[], attributes := #[] }
def k2m1 : Method := { name := "parseTenths", desc := "(JI)I", sig := { parameters := [.long, .int], returnType := some .int }, accessFlags := 9, code := some k2c1 }
/-- com/example/nanoparse/nanoparse/Decimals -/
def k2 : Class := { plain "com/example/nanoparse/nanoparse/Decimals" (some 0) with
  accessFlags := 49
  interfaces := #[]
  cf := some (fileOf pool2 3 #[] #[{ accessFlags := 2, nameIndex := 9, descriptorIndex := 10, attributes := #[] }, { accessFlags := 9, nameIndex := 20, descriptorIndex := 32, attributes := #[] }] 49 6 #[] #[{ accessFlags := 25, nameIndex := 72, descriptorIndex := 73, attributes := #[] }, { accessFlags := 25, nameIndex := 75, descriptorIndex := 73, attributes := #[] }, { accessFlags := 25, nameIndex := 77, descriptorIndex := 73, attributes := #[] }, { accessFlags := 26, nameIndex := 79, descriptorIndex := 73, attributes := #[] }, { accessFlags := 26, nameIndex := 81, descriptorIndex := 73, attributes := #[] }, { accessFlags := 26, nameIndex := 83, descriptorIndex := 73, attributes := #[] }, { accessFlags := 26, nameIndex := 85, descriptorIndex := 73, attributes := #[] }, { accessFlags := 26, nameIndex := 86, descriptorIndex := 73, attributes := #[] }, { accessFlags := 26, nameIndex := 88, descriptorIndex := 73, attributes := #[] }, { accessFlags := 26, nameIndex := 89, descriptorIndex := 73, attributes := #[] }, { accessFlags := 26, nameIndex := 90, descriptorIndex := 73, attributes := #[] }, { accessFlags := 26, nameIndex := 91, descriptorIndex := 73, attributes := #[] }, { accessFlags := 26, nameIndex := 92, descriptorIndex := 93, attributes := #[] }, { accessFlags := 26, nameIndex := 94, descriptorIndex := 73, attributes := #[] }])
  fields := #[{ name := "INVALID", type := .int, accessFlags := 25, slot := 0, constantValue := 0 }, { name := "MIN_TENTHS", type := .int, accessFlags := 25, slot := 1, constantValue := 0 }, { name := "MAX_TENTHS", type := .int, accessFlags := 25, slot := 2, constantValue := 0 }, { name := "SHORT_BODY", type := .int, accessFlags := 26, slot := 3, constantValue := 0 }, { name := "LONG_BODY", type := .int, accessFlags := 26, slot := 4, constantValue := 0 }, { name := "LONGEST", type := .int, accessFlags := 26, slot := 5, constantValue := 0 }, { name := "SHORT_PATTERN", type := .int, accessFlags := 26, slot := 6, constantValue := 0 }, { name := "TENS_DIGIT", type := .int, accessFlags := 26, slot := 7, constantValue := 0 }, { name := "NOT_DIGIT_BITS", type := .int, accessFlags := 26, slot := 8, constantValue := 0 }, { name := "DIGIT_CARRY", type := .int, accessFlags := 26, slot := 9, constantValue := 0 }, { name := "CARRY_BITS", type := .int, accessFlags := 26, slot := 10, constantValue := 0 }, { name := "DIGITS", type := .int, accessFlags := 26, slot := 11, constantValue := 0 }, { name := "DIGIT_WEIGHTS", type := .long, accessFlags := 26, slot := 12, constantValue := 0 }, { name := "TENTHS_MASK", type := .int, accessFlags := 26, slot := 13, constantValue := 0 }]
  methods := #[k2m0, k2m1]
  instanceTypes := #[]
  staticTypes := #[.int, .int, .int, .int, .int, .int, .int, .int, .int, .int, .int, .int, .long, .int]
  resolved := Array.replicate 125 none
  statics := none }

def pool3 : Array CpInfo := pool [(1, u "java/lang/Cloneable"), (0, .class_ 1), (0, u "java/lang/Object"), (0, .class_ 3)] 3

/-- java/lang/Cloneable -/
def k3 : Class := { plain "java/lang/Cloneable" (some 0) with
  accessFlags := 1537
  interfaces := #[]
  cf := some (fileOf pool3 2 #[] #[] 1537 4 #[] #[])
  fields := #[]
  methods := #[]
  instanceTypes := #[]
  staticTypes := #[]
  resolved := Array.replicate 8 none
  statics := none }

def pool4 : Array CpInfo := pool [(1, u "java/io/Serializable"), (0, .class_ 1), (0, u "java/lang/Object"), (0, .class_ 3)] 3

/-- java/io/Serializable -/
def k4 : Class := { plain "java/io/Serializable" (some 0) with
  accessFlags := 1537
  interfaces := #[]
  cf := some (fileOf pool4 2 #[] #[] 1537 4 #[] #[])
  fields := #[]
  methods := #[]
  instanceTypes := #[]
  staticTypes := #[]
  resolved := Array.replicate 8 none
  statics := none }

/-- the primitive byte -/
def k5 : Class := { plain "byte" none with kind := .primitive 'B', accessFlags := 0x411 }
/-- [B -/
def k6 : Class := { plain "[B" (some 0) with kind := .array 5 .byte, interfaces := #[3, 4], accessFlags := 1041 }

/-- the primitive int -/
def k7 : Class := { plain "int" none with kind := .primitive 'I', accessFlags := 0x411 }
/-- [I -/
def k8 : Class := { plain "[I" (some 0) with kind := .array 7 .int, interfaces := #[3, 4], accessFlags := 1041 }

def heap : Heap := #[]
def classes : Array Class := #[k0, k1, k2, k3, k4, k5, k6, k7, k8]
def interned : List (Array UInt16 × Addr) := []
def slotsUsed : Nat := 0
def theMethod : MethodId := ⟨1, 1⟩
def args0 : Array Value := #[.long 13107, .int 3, .int 5, .int 33]
def aboutOver (below : List Frame) : State where
  vm := { classes := classes, interned := interned.toArray }
  heap := heap
  slotsUsed := slotsUsed
  threads := #[{ frames := .invoking theMethod args0 :: below }]
def below0 : List Frame := [.native { method := ⟨0, 0⟩, args := #[] }]
def about1 : State := aboutOver below0
def p0 : Program := .bare "" "" ""
def e0 : Env := launch0.env 0 0 0
theorem w_frames : about1.frames = Frame.invoking theMethod args0 :: below0 := rfl
set_option maxRecDepth 65536 in
theorem w_args : argsFit about1.vm theMethod args0 = true := by decide +kernel
set_option maxRecDepth 65536 in
theorem w_heap : heapFits about1 = true := by decide +kernel
set_option maxRecDepth 65536 in
theorem w_runnable : about1.curStatus? = some .runnable := by decide +kernel
set_option maxRecDepth 65536 in
theorem w_alone : about1.alone = true := by decide +kernel
set_option maxRecDepth 65536 in
theorem w_named : about1.methodNamed? x = some theMethod := by decide +kernel
set_option maxRecDepth 65536 in
theorem w_hears : about1.hears theMethod below0 = true := by decide +kernel
set_option maxRecDepth 65536 in
theorem w_ripe : about1.ripe theMethod args0 below0 = true := by decide +kernel
theorem w_running : about1.status = .running := rfl
set_option maxRecDepth 65536 in
theorem w_room : about1.hasRoom e0.platform room_1 = true :=
  launch0.hasRoom_least _ room_1 (by decide +kernel) (by decide +kernel) (by decide +kernel) (by decide +kernel) (by decide +kernel) (by decide +kernel)
theorem allAtoms_all (ts : List Jvm.Cond) (a : Array Jvm.Value) (st : Jvm.State) : (allAtoms ts).before a st = ts.all (fun c => c.before a st) := by
  induction ts with
  | nil => rfl
  | cons c t ih =>
    show (Jvm.Cond.and c (allAtoms t)).before a st = _
    rw [Jvm.Cond.before_and, ih, List.all_cons]
def words1 : List Jvm.Cond := Jvm.Cond.code x code maxLocals ret :: tables_1
/-- a 'code' word, met by the world's own term for the bytes: nothing is compared byte by byte -/
theorem code_word {y : MethodName} {bytes : ByteArray} {mx : Nat} {rt : Option FieldType} {a : Array Value} {s : State} {m : MethodId} {meth : Method} {c : Code} (h1 : s.methodNamed? y = some m) (h2 : s.vm.method? m = some meth) (h3 : meth.code = some c) (h4 : c.code = bytes)
    (h5 : (c.maxLocals == mx && c.exceptionTable.isEmpty && decide (c.maxStack ≤ mostOperands) && decide (meth.sig.returnType = rt) && !meth.locks && decide (parseMethodDescriptor y.desc = some meth.sig)) = true) : (Jvm.Cond.code y bytes mx rt).before a s = true := by
  simp only [Bool.and_eq_true, beq_iff_eq, Bool.not_eq_true', decide_eq_true_eq] at h5
  obtain ⟨⟨⟨⟨⟨g1, g2⟩, g3⟩, g4⟩, g5⟩, g6⟩ := h5
  simp [Cond.before, Cond.holds, Cond.value, h1, h2, h3, h4, g1, g2, g3, g4, g5, g6]
def isCode : Jvm.Cond → Bool
  | .code _ _ _ _ => true
  | _ => false
theorem all_split {L : List Jvm.Cond} {P : Jvm.Cond → Bool} (h1 : L.all (fun c => isCode c || P c) = true) (h2 : ∀ c ∈ L.filter isCode, P c = true) : L.all P = true := by
  refine List.all_eq_true.mpr fun c hc => ?_
  have h := List.all_eq_true.mp h1 c hc
  rcases Bool.eq_false_or_eq_true (isCode c) with hi | hi
  · exact h2 c (List.mem_filter.mpr ⟨hc, hi⟩)
  · simpa [hi] using h
set_option maxRecDepth 65536 in
theorem w_c0 : (Jvm.Cond.code x code maxLocals ret).before args0 about1 = true := code_word (m := ⟨1, 1⟩) (meth := k1m1) (c := k1c1) (by decide +kernel) rfl rfl rfl (by decide +kernel)
set_option maxRecDepth 65536 in
theorem w_c1 : (Jvm.Cond.code ({ cls := "com/example/nanoparse/nanoparse/Decimals", name := "parseTenths", desc := "(JI)I" } : Jvm.MethodName) prog_8_method_6_code (9 : Nat) (Option.some Jvm.ClassFile.FieldType.int)).before args0 about1 = true := code_word (m := ⟨2, 1⟩) (meth := k2m1) (c := k2c1) (by decide +kernel) rfl rfl rfl (by decide +kernel)
set_option maxRecDepth 65536 in
theorem w_c2 : (Jvm.Cond.code ({ cls := "com/example/nanoparse/nanoparse/DecimalsParseTenthsPinLaw", name := "reference", desc := "(JI)I" } : Jvm.MethodName) method_4_code (8 : Nat) (Option.some Jvm.ClassFile.FieldType.int)).before args0 about1 = true := code_word (m := ⟨1, 3⟩) (meth := k1m3) (c := k1c3) (by decide +kernel) rfl rfl rfl (by decide +kernel)
set_option maxRecDepth 65536 in
theorem w_c3 : (Jvm.Cond.code ({ cls := "com/example/nanoparse/nanoparse/DecimalsParseTenthsPinLaw", name := "isDigit", desc := "(I)Z" } : Jvm.MethodName) method_3_code (1 : Nat) (Option.some Jvm.ClassFile.FieldType.boolean)).before args0 about1 = true := code_word (m := ⟨1, 2⟩) (meth := k1m2) (c := k1c2) (by decide +kernel) rfl rfl rfl (by decide +kernel)
def codes1 : List Jvm.Cond := [Jvm.Cond.code x code maxLocals ret, Jvm.Cond.code ({ cls := "com/example/nanoparse/nanoparse/Decimals", name := "parseTenths", desc := "(JI)I" } : Jvm.MethodName) prog_8_method_6_code (9 : Nat) (Option.some Jvm.ClassFile.FieldType.int), Jvm.Cond.code ({ cls := "com/example/nanoparse/nanoparse/DecimalsParseTenthsPinLaw", name := "reference", desc := "(JI)I" } : Jvm.MethodName) method_4_code (8 : Nat) (Option.some Jvm.ClassFile.FieldType.int), Jvm.Cond.code ({ cls := "com/example/nanoparse/nanoparse/DecimalsParseTenthsPinLaw", name := "isDigit", desc := "(I)Z" } : Jvm.MethodName) method_3_code (1 : Nat) (Option.some Jvm.ClassFile.FieldType.boolean)]
set_option maxRecDepth 65536 in
theorem codes_eq : words1.filter isCode = codes1 := rfl
theorem w_codes : ∀ c ∈ words1.filter isCode, c.before args0 about1 = true := by
  rw [codes_eq]
  intro c hc
  simp only [codes1, List.mem_cons, List.not_mem_nil, or_false] at hc
  rcases hc with rfl | rfl | rfl | rfl
  · exact w_c0
  · exact w_c1
  · exact w_c2
  · exact w_c3
set_option maxRecDepth 65536 in
theorem w_t1 : (words1.take 24).all (fun c => isCode c || c.before args0 about1) = true := by decide +kernel
set_option maxRecDepth 65536 in
theorem w_t2 : (words1.drop 24).all (fun c => isCode c || c.before args0 about1) = true := by decide +kernel
theorem w_tables : (allAtoms (Jvm.Cond.code x code maxLocals ret :: tables_1)).before args0 about1 = true := by
  rw [allAtoms_all]
  show words1.all (fun c => c.before args0 about1) = true
  refine all_split ?_ w_codes
  rw [← List.take_append_drop 24 words1, List.all_append, w_t1, w_t2]
  rfl
set_option maxRecDepth 65536 in
theorem w_case : (Jvm.Cond.and given_1 narrow_1).before args0 about1 = true := by decide +kernel
theorem w_applies : (headSpec (Jvm.Cond.code x code maxLocals ret :: tables_1) room_1).applies x e0.platform about1 = true :=
  (Spec.applies_iff w_frames).mpr ⟨w_running, w_runnable, w_alone, w_named, w_hears, w_ripe, w_room, w_tables⟩
theorem atStart : AtStart classFile x code maxLocals ret World_1 tables_1 room_1 Calls_1 rest_1 Pre_1 launch0 p0 e0 about1 theMethod args0 below0 :=
  ⟨lists_1, trivial, launch0.admits_env _ _ _, launch0.least_env, fairChoices_fair.cas, fairChoices_fair.clock, w_frames, w_args, w_heap, w_applies, trivial, trivial, w_case⟩
end start1
theorem witness_1 : WitnessClaimed_1 := ⟨start1.p0, start1.e0, start1.about1, start1.theMethod, start1.args0, start1.below0, start1.atStart⟩
end Jvm.Pilot.@@N@@
