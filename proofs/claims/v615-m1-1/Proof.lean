import JvmDerived
import JvmDerived.Pilot.@@N@@Statement
import JvmDerived.Pilot.@@N@@Code
set_option linter.unusedVariables false
set_option linter.unusedSimpArgs false
namespace Jvm.Pilot.@@N@@
open Jvm Jvm.ClassFile Sem Op Lib Jvm.Free Jvm.Stand Jvm.LawKit Jvm.RoadKit Bundle Jvm.Pilot.@@N@@.Jvm.D
/-! ## THE LAYER OF THIS SEAT (GoKit): one predicate 'Go': from this pc, these locals and this stack, over the heap h, with k cells and n slots made, the body ends as Q says -/
abbrev Noise : Type := Program × Launch × Env × State × MethodId × Array Value × List Frame × Method × Code
def Cx (E : Noise) (Z : State) (own nm : String) (bytes : ByteArray) (mx : Nat) (rt : Option FieldType) : Prop :=
  E.1.tables.exec = Jvm.exec ∧ E.2.2.2.2.2.2.2.2.code = bytes ∧ E.2.2.2.2.2.2.2.2.maxLocals = mx ∧ Z.Warmed39 E.2.2.2.1.vm ∧ E.2.2.2.1.vm.findClass own = some E.2.2.2.2.1.cls ∧ E.2.2.2.2.2.2.2.1.sig.returnType = rt ∧ E.2.2.2.2.2.2.2.1.locks = false ∧ E.2.2.2.2.2.2.2.1.name = nm
abbrev Sd (E : Noise) (R : Room) (T : State) (locs : List Loc) (k n : Nat) : Prop := Stand E.1 E.2.1 E.2.2.1 R E.2.2.2.1 E.2.2.2.2.1 E.2.2.2.2.2.1 E.2.2.2.2.2.2.1 E.2.2.2.2.2.2.2.1 E.2.2.2.2.2.2.2.2 T locs k n
abbrev Sp (E : Noise) (a b : State) : Prop := Steps E.1.tables E.2.2.1 E.2.2.2.2.2.2.1 a b
def Go (E : Noise) (R : Room) (n0 : Nat) (Q : Option Value → Heap → Prop) (h : Heap) (k n : Nat) (pc : Nat) (Ls : Array Slot) (st : List Value) : Prop :=
  ∀ (T : State) (locs : List Loc), Sd E R T locs k n → T.heap = h → Fr n0 locs →
    ∃ s₂ o, Sp E (T.setTop (mkF E.2.2.2.2.1 pc Ls st)) s₂ ∧ s₂.status = .running ∧ Ended s₂ E.2.2.2.2.2.2.1 o ∧ ∃ v L, o = .returned v ∧ (Q v s₂.heap ∧ Fr n0 L) ∧ FrameEnd E.2.2.2.1 o s₂ L R.cells R.slots
def Met (Z : State) (y : MethodName) (bytes : ByteArray) (mx : Nat) (rt : Option FieldType) (R : Room) (as : Array Value) (h0 : Heap) (n0 : Nat) (Q : Option Value → Heap → Prop) : Prop :=
  ∀ (l : Launch) (ws : List Jvm.Cond), MetFree l y (head1 (Jvm.Cond.code y bytes mx rt :: ws) R) (fun a U => a = as ∧ Z.Warmed39 U.vm ∧ U.heap = h0) (fun _ _ _ _ _ => True)
    (fun _ U o U' => ∃ v L, o = .returned v ∧ (Q v U'.heap ∧ Fr n0 L) ∧ FrameEnd U o U' L R.cells R.slots)
section GoKit
variable {E : Noise} {Z : State} {own nm : String} {bytes : ByteArray} {mx : Nat} {rt : Option FieldType} {R : Room} {n0 : Nat} {Q : Option Value → Heap → Prop} {h : Heap} {k n : Nat} {pc pc' : Nat} {Ls Ls' : Array Slot} {st rest : List Value} {a0 : Array Value}
theorem own_w {i : Nat} {d : Jvm.Cond} (hw : ∀ d ∈ tables_1, d.before a0 Z = true) (q : tables_1[i]? = some d) : d.before a0 Z = true := hw _ (List.mem_of_getElem? q)
theorem nne {x y : Nat} (q : x ≠ y) : @Ne Jvm.Addr x y := q
theorem nnS {x y : Nat} {L : List Nat} (q : x ≠ y) (r : x ∉ L) : x ∉ y :: L := ninS q r
theorem exa_lt {a : Nat} {K : String} (F : Exa Z h a K) : a < h.size := F.lt
theorem keep_wr {h0 h' : Heap} {ws : List Nat} {a sl : Nat} {v : Value} (K : Keep h0 h ws) (W : Wr h h' a sl v) (q : h0.size ≤ a) : Keep h0 h' ws := K.wr W (Or.inr q)
theorem met_of {y : MethodName} {as : Array Value} {h0 : Heap} (hpn : plainFor y = true) (hent : ∀ m, entryFrame m as mx = mkF m 0 Ls [])
    (H : ∀ E : Noise, Cx E Z y.cls y.name bytes mx rt → Go E R n0 Q h0 0 0 0 Ls []) : Met Z y bytes mx rt R as h0 n0 Q := by
  intro l ws
  refine MetFree.of_bodySF hpn hisR ?_
  intro p e s m args below meth c s₁ Bd hml0 hP hK
  obtain ⟨rfl, hZ, hh⟩ := hP
  have hown : s.vm.findClass y.cls = some m.cls := findClass_of_methodNamed Bd.named
  have X0 : Stand p l e R s m args below meth c s₁ [] 0 0 := Stand.of_body Bd
  have e0 : s₁.heap = h0 := by rw [← hh, Bd.state]; rfl
  obtain ⟨s₂, o, q1, q2, q3, q4⟩ := H (p, l, e, s, m, args, below, meth, c) ⟨Bd.exec, Bd.bytes, hml0, hZ, hown, Bd.returns, Bd.notSynchronized, (name_of_methodNamed Bd.named Bd.method).1⟩ s₁ [] X0 e0 (Fr.nil n0)
  exact ⟨s₂, o, castTop (hent m) q1, q2, q3, q4⟩
theorem go_step (H : Go E R n0 Q h k n pc' Ls' rest) (f : ∀ T locs target, Sd E R T locs k n → T.heap = h → Sp E (T.setTop (mkF E.2.2.2.2.1 pc' Ls' rest)) target → Sp E (T.setTop (mkF E.2.2.2.2.1 pc Ls st)) target) : Go E R n0 Q h k n pc Ls st := fun T locs X hh N => by
  obtain ⟨s₂, o, q1, q⟩ := H T locs X hh N
  exact ⟨s₂, o, f T locs s₂ X hh q1, q⟩
theorem go_more {k' n' : Nat} (hk : k ≤ k') (hn : n ≤ n') (H : Go E R n0 Q h k' n' pc Ls st) : Go E R n0 Q h k n pc Ls st := fun T locs X hh N => H T locs (X.more hk hn) hh N
theorem go_aloadN (C : Cx E Z own nm bytes mx rt) {i : Fin 4} {v : Value} (hd : decode bytes pc = .ok (.aload_n i, 1)) (hl : Ls[i.val]? = some (.val v)) (hv : v.isRef = true) (hp : pc + 1 = pc') (H : Go E R n0 Q h k n pc' Ls (v :: st)) : Go E R n0 Q h k n pc Ls st := by
  subst hp; exact go_step H fun T locs t X _ q => XS.aloadN X.here C.1 rfl (hb C.2.1 hd) hl hv q
theorem go_aload (C : Cx E Z own nm bytes mx rt) {i : Nat} {v : Value} (hd : decode bytes pc = .ok (.aload i, 2)) (hl : Ls[i]? = some (.val v)) (hv : v.isRef = true) (hp : pc + 2 = pc') (H : Go E R n0 Q h k n pc' Ls (v :: st)) : Go E R n0 Q h k n pc Ls st := by
  subst hp; exact go_step H fun T locs t X _ q => XS.aload X.here C.1 rfl (hb C.2.1 hd) hl hv q
theorem go_iloadN (C : Cx E Z own nm bytes mx rt) {i : Fin 4} {v : Int32} (hd : decode bytes pc = .ok (.iload_n i, 1)) (hl : Ls[i.val]? = some (.val (.int v))) (hp : pc + 1 = pc') (H : Go E R n0 Q h k n pc' Ls (.int v :: st)) : Go E R n0 Q h k n pc Ls st := by
  subst hp; exact go_step H fun T locs t X _ q => XS.iloadN X.here C.1 rfl (hb C.2.1 hd) hl q
theorem go_iload (C : Cx E Z own nm bytes mx rt) {i : Nat} {v : Int32} (hd : decode bytes pc = .ok (.iload i, 2)) (hl : Ls[i]? = some (.val (.int v))) (hp : pc + 2 = pc') (H : Go E R n0 Q h k n pc' Ls (.int v :: st)) : Go E R n0 Q h k n pc Ls st := by
  subst hp; exact go_step H fun T locs t X _ q => XS.iload X.here C.1 rfl (hb C.2.1 hd) hl q
theorem go_lloadN (C : Cx E Z own nm bytes mx rt) {i : Fin 4} {v : Int64} (hd : decode bytes pc = .ok (.lload_n i, 1)) (hl : Ls[i.val]? = some (.val (.long v))) (hp : pc + 1 = pc') (H : Go E R n0 Q h k n pc' Ls (.long v :: st)) : Go E R n0 Q h k n pc Ls st := by
  subst hp; exact go_step H fun T locs t X _ q => XT.lloadN X.here C.1 rfl (hb C.2.1 hd) hl q
theorem go_lload (C : Cx E Z own nm bytes mx rt) {i : Nat} {v : Int64} (hd : decode bytes pc = .ok (.lload i, 2)) (hl : Ls[i]? = some (.val (.long v))) (hp : pc + 2 = pc') (H : Go E R n0 Q h k n pc' Ls (.long v :: st)) : Go E R n0 Q h k n pc Ls st := by
  subst hp; exact go_step H fun T locs t X _ q => XT.lload X.here C.1 rfl (hb C.2.1 hd) hl q
theorem go_iconst (C : Cx E Z own nm bytes mx rt) {i : Int} {z : Int32} (hd : decode bytes pc = .ok (.iconst i, 1)) (hz : Int32.ofInt i = z) (hp : pc + 1 = pc') (H : Go E R n0 Q h k n pc' Ls (.int z :: st)) : Go E R n0 Q h k n pc Ls st := by
  subst hp hz; exact go_step H fun T locs t X _ q => XS.iconst X.here C.1 rfl (hb C.2.1 hd) q
theorem go_lconst (C : Cx E Z own nm bytes mx rt) {i : Fin 2} {z : Int64} (hd : decode bytes pc = .ok (.lconst i, 1)) (hz : Int64.ofNat i = z) (hp : pc + 1 = pc') (H : Go E R n0 Q h k n pc' Ls (.long z :: st)) : Go E R n0 Q h k n pc Ls st := by
  subst hp hz; exact go_step H fun T locs t X _ q => XT.lconst X.here C.1 rfl (hb C.2.1 hd) q
theorem go_bipush (C : Cx E Z own nm bytes mx rt) {i : Int} {z : Int32} (hd : decode bytes pc = .ok (.bipush i, 2)) (hz : (Int8.ofInt i).toInt32 = z) (hp : pc + 2 = pc') (H : Go E R n0 Q h k n pc' Ls (.int z :: st)) : Go E R n0 Q h k n pc Ls st := by
  subst hp hz; exact go_step H fun T locs t X _ q => XS.bipush X.here C.1 rfl (hb C.2.1 hd) q
theorem go_sipush (C : Cx E Z own nm bytes mx rt) {i : Int} {z : Int32} (hd : decode bytes pc = .ok (.sipush i, 3)) (hz : (Int16.ofInt i).toInt32 = z) (hp : pc + 3 = pc') (H : Go E R n0 Q h k n pc' Ls (.int z :: st)) : Go E R n0 Q h k n pc Ls st := by
  subst hp hz; exact go_step H fun T locs t X _ q => XS.sipush X.here C.1 rfl (hb C.2.1 hd) q
theorem go_aconstNull (C : Cx E Z own nm bytes mx rt) (hd : decode bytes pc = .ok (.aconst_null, 1)) (hp : pc + 1 = pc') (H : Go E R n0 Q h k n pc' Ls (.null :: st)) : Go E R n0 Q h k n pc Ls st := by
  subst hp; exact go_step H fun T locs t X _ q => XS.aconstNull X.here C.1 rfl (hb C.2.1 hd) q
theorem go_ldc (C : Cx E Z own nm bytes mx rt) {i : Nat} {z : Int32} (hd : decode bytes pc = .ok (.ldc i, 2)) (w1 : (Cond.constant own i z).before a0 Z = true) (hp : pc + 2 = pc') (H : Go E R n0 Q h k n pc' Ls (.int z :: st)) : Go E R n0 Q h k n pc Ls st := by
  subst hp; exact go_step H fun T locs t X _ q => X.ldcInt C.1 C.2.2.2.2.1 (mvT C.2.2.2.1 w1) (g := mkF _ pc Ls st) rfl (hb C.2.1 hd) t q
theorem go_ldc2L (C : Cx E Z own nm bytes mx rt) {i : Nat} {z : Int64} (hd : decode bytes pc = .ok (.ldc2_w i, 3)) (w1 : (Cond.constantLong own i z).before a0 Z = true) (hp : pc + 3 = pc') (H : Go E R n0 Q h k n pc' Ls (.long z :: st)) : Go E R n0 Q h k n pc Ls st := by
  subst hp; exact go_step H fun T locs t X _ q => X.ldc2Long C.1 C.2.2.2.2.1 (mvT C.2.2.2.1 w1) (g := mkF _ pc Ls st) rfl (hb C.2.1 hd) t q
theorem go_istoreN (C : Cx E Z own nm bytes mx rt) {i : Fin 4} {x : Int32} (hd : decode bytes pc = .ok (.istore_n i, 1)) (hl : storeLocals Ls i.val (.int x) = some Ls') (hp : pc + 1 = pc') (H : Go E R n0 Q h k n pc' Ls' st) : Go E R n0 Q h k n pc Ls (.int x :: st) := by
  subst hp; exact go_step H fun T locs t X _ q => XS.istoreN X.here C.1 rfl (hb C.2.1 hd) rfl hl q
theorem go_istore (C : Cx E Z own nm bytes mx rt) {i : Nat} {x : Int32} (hd : decode bytes pc = .ok (.istore i, 2)) (hl : storeLocals Ls i (.int x) = some Ls') (hp : pc + 2 = pc') (H : Go E R n0 Q h k n pc' Ls' st) : Go E R n0 Q h k n pc Ls (.int x :: st) := by
  subst hp; exact go_step H fun T locs t X _ q => XS.istore X.here C.1 rfl (hb C.2.1 hd) rfl hl q
theorem go_astoreN (C : Cx E Z own nm bytes mx rt) {i : Fin 4} {x : Value} (hd : decode bytes pc = .ok (.astore_n i, 1)) (hv : x.isRef = true) (hl : storeLocals Ls i.val x = some Ls') (hp : pc + 1 = pc') (H : Go E R n0 Q h k n pc' Ls' st) : Go E R n0 Q h k n pc Ls (x :: st) := by
  subst hp; exact go_step H fun T locs t X _ q => XS.astoreN X.here C.1 rfl (hb C.2.1 hd) rfl hv hl q
theorem go_astore (C : Cx E Z own nm bytes mx rt) {i : Nat} {x : Value} (hd : decode bytes pc = .ok (.astore i, 2)) (hv : x.isRef = true) (hl : storeLocals Ls i x = some Ls') (hp : pc + 2 = pc') (H : Go E R n0 Q h k n pc' Ls' st) : Go E R n0 Q h k n pc Ls (x :: st) := by
  subst hp; exact go_step H fun T locs t X _ q => XS.astore X.here C.1 rfl (hb C.2.1 hd) rfl hv hl q
theorem go_lstoreN (C : Cx E Z own nm bytes mx rt) {i : Fin 4} {x : Int64} (hd : decode bytes pc = .ok (.lstore_n i, 1)) (hl : storeLocals Ls i.val (.long x) = some Ls') (hp : pc + 1 = pc') (H : Go E R n0 Q h k n pc' Ls' st) : Go E R n0 Q h k n pc Ls (.long x :: st) := by
  subst hp; exact go_step H fun T locs t X _ q => XT.lstoreN X.here C.1 rfl (hb C.2.1 hd) rfl hl q
theorem go_lstore (C : Cx E Z own nm bytes mx rt) {i : Nat} {x : Int64} (hd : decode bytes pc = .ok (.lstore i, 2)) (hl : storeLocals Ls i (.long x) = some Ls') (hp : pc + 2 = pc') (H : Go E R n0 Q h k n pc' Ls' st) : Go E R n0 Q h k n pc Ls (.long x :: st) := by
  subst hp; exact go_step H fun T locs t X _ q => XT.lstore X.here C.1 rfl (hb C.2.1 hd) rfl hl q
theorem go_iinc (C : Cx E Z own nm bytes mx rt) {i : Nat} {d : Int} {x z : Int32} (hd : decode bytes pc = .ok (.iinc i d, 3)) (hl : Ls[i]? = some (.val (.int x))) (hz : Int32.ofInt d = z) (hl' : storeLocals Ls i (.int (x + z)) = some Ls') (hp : pc + 3 = pc') (H : Go E R n0 Q h k n pc' Ls' st) : Go E R n0 Q h k n pc Ls st := by
  subst hp hz; exact go_step H fun T locs t X _ q => XS.iinc X.here C.1 rfl (hb C.2.1 hd) hl hl' q
theorem go_dup (C : Cx E Z own nm bytes mx rt) {x : Value} (hd : decode bytes pc = .ok (.dup, 1)) (hc : x.category = 1) (hp : pc + 1 = pc') (H : Go E R n0 Q h k n pc' Ls (x :: x :: st)) : Go E R n0 Q h k n pc Ls (x :: st) := by
  subst hp; exact go_step H fun T locs t X _ q => XS.dup X.here C.1 rfl (hb C.2.1 hd) rfl hc q
theorem go_dupX1 (C : Cx E Z own nm bytes mx rt) {x y : Value} (hd : decode bytes pc = .ok (.dup_x1, 1)) (hc : x.category = 1) (hc' : y.category = 1) (hp : pc + 1 = pc') (H : Go E R n0 Q h k n pc' Ls (x :: y :: x :: st)) : Go E R n0 Q h k n pc Ls (x :: y :: st) := by
  subst hp; exact go_step H fun T locs t X _ q => XT.dupX1 X.here C.1 rfl (hb C.2.1 hd) rfl hc hc' q
theorem go_dup2 (C : Cx E Z own nm bytes mx rt) {x y : Value} (hd : decode bytes pc = .ok (.dup2, 1)) (hc : x.category = 1) (hc' : y.category = 1) (hp : pc + 1 = pc') (H : Go E R n0 Q h k n pc' Ls (x :: y :: x :: y :: st)) : Go E R n0 Q h k n pc Ls (x :: y :: st) := by
  subst hp; exact go_step H fun T locs t X _ q => XT.dup2 X.here C.1 rfl (hb C.2.1 hd) rfl hc hc' q
theorem go_pop (C : Cx E Z own nm bytes mx rt) {x : Value} (hd : decode bytes pc = .ok (.pop, 1)) (hc : x.category = 1) (hp : pc + 1 = pc') (H : Go E R n0 Q h k n pc' Ls st) : Go E R n0 Q h k n pc Ls (x :: st) := by
  subst hp; exact go_step H fun T locs t X _ q => XT.pop X.here C.1 rfl (hb C.2.1 hd) rfl hc q
theorem go_iadd (C : Cx E Z own nm bytes mx rt) {x y : Int32} (hd : decode bytes pc = .ok (.iadd, 1)) (hp : pc + 1 = pc') (H : Go E R n0 Q h k n pc' Ls (.int (x + y) :: st)) : Go E R n0 Q h k n pc Ls (.int y :: .int x :: st) := by
  subst hp; exact go_step H fun T locs t X _ q => XS.iadd X.here C.1 rfl (hb C.2.1 hd) rfl q
theorem go_isub (C : Cx E Z own nm bytes mx rt) {x y : Int32} (hd : decode bytes pc = .ok (.isub, 1)) (hp : pc + 1 = pc') (H : Go E R n0 Q h k n pc' Ls (.int (x - y) :: st)) : Go E R n0 Q h k n pc Ls (.int y :: .int x :: st) := by
  subst hp; exact go_step H fun T locs t X _ q => XS.isub X.here C.1 rfl (hb C.2.1 hd) rfl q
theorem go_imul (C : Cx E Z own nm bytes mx rt) {x y : Int32} (hd : decode bytes pc = .ok (.imul, 1)) (hp : pc + 1 = pc') (H : Go E R n0 Q h k n pc' Ls (.int (x * y) :: st)) : Go E R n0 Q h k n pc Ls (.int y :: .int x :: st) := by
  subst hp; exact go_step H fun T locs t X _ q => XS.imul X.here C.1 rfl (hb C.2.1 hd) rfl q
theorem go_irem (C : Cx E Z own nm bytes mx rt) {x y : Int32} (hd : decode bytes pc = .ok (.irem, 1)) (hy : y ≠ 0) (hp : pc + 1 = pc') (H : Go E R n0 Q h k n pc' Ls (.int (x % y) :: st)) : Go E R n0 Q h k n pc Ls (.int y :: .int x :: st) := by
  subst hp; exact go_step H fun T locs t X _ q => iremM X C.1 rfl (hb C.2.1 hd) rfl hy q
theorem go_iand (C : Cx E Z own nm bytes mx rt) {x y : Int32} (hd : decode bytes pc = .ok (.iand, 1)) (hp : pc + 1 = pc') (H : Go E R n0 Q h k n pc' Ls (.int (x &&& y) :: st)) : Go E R n0 Q h k n pc Ls (.int y :: .int x :: st) := by
  subst hp; exact go_step H fun T locs t X _ q => XS.iand X.here C.1 rfl (hb C.2.1 hd) rfl q
theorem go_ior (C : Cx E Z own nm bytes mx rt) {x y : Int32} (hd : decode bytes pc = .ok (.ior, 1)) (hp : pc + 1 = pc') (H : Go E R n0 Q h k n pc' Ls (.int (x ||| y) :: st)) : Go E R n0 Q h k n pc Ls (.int y :: .int x :: st) := by
  subst hp; exact go_step H fun T locs t X _ q => XT.ior X.here C.1 rfl (hb C.2.1 hd) rfl q
theorem go_ishl (C : Cx E Z own nm bytes mx rt) {x y : Int32} (hd : decode bytes pc = .ok (.ishl, 1)) (hp : pc + 1 = pc') (H : Go E R n0 Q h k n pc' Ls (.int (x <<< (y &&& 31)) :: st)) : Go E R n0 Q h k n pc Ls (.int y :: .int x :: st) := by
  subst hp; exact go_step H fun T locs t X _ q => XT.ishl X.here C.1 rfl (hb C.2.1 hd) rfl q
theorem go_ishr (C : Cx E Z own nm bytes mx rt) {x y : Int32} (hd : decode bytes pc = .ok (.ishr, 1)) (hp : pc + 1 = pc') (H : Go E R n0 Q h k n pc' Ls (.int (x >>> (y &&& 31)) :: st)) : Go E R n0 Q h k n pc Ls (.int y :: .int x :: st) := by
  subst hp; exact go_step H fun T locs t X _ q => XT.ishr X.here C.1 rfl (hb C.2.1 hd) rfl q
theorem go_iushr (C : Cx E Z own nm bytes mx rt) {x y : Int32} (hd : decode bytes pc = .ok (.iushr, 1)) (hp : pc + 1 = pc') (H : Go E R n0 Q h k n pc' Ls (.int (XT.ushr x y) :: st)) : Go E R n0 Q h k n pc Ls (.int y :: .int x :: st) := by
  subst hp; exact go_step H fun T locs t X _ q => XT.iushr X.here C.1 rfl (hb C.2.1 hd) rfl q
theorem go_lmul (C : Cx E Z own nm bytes mx rt) {x y : Int64} (hd : decode bytes pc = .ok (.lmul, 1)) (hp : pc + 1 = pc') (H : Go E R n0 Q h k n pc' Ls (.long (x * y) :: st)) : Go E R n0 Q h k n pc Ls (.long y :: .long x :: st) := by
  subst hp; exact go_step H fun T locs t X _ q => XT.lmul X.here C.1 rfl (hb C.2.1 hd) rfl q
theorem go_land (C : Cx E Z own nm bytes mx rt) {x y : Int64} (hd : decode bytes pc = .ok (.land, 1)) (hp : pc + 1 = pc') (H : Go E R n0 Q h k n pc' Ls (.long (x &&& y) :: st)) : Go E R n0 Q h k n pc Ls (.long y :: .long x :: st) := by
  subst hp; exact go_step H fun T locs t X _ q => XT.land X.here C.1 rfl (hb C.2.1 hd) rfl q
theorem go_lushr (C : Cx E Z own nm bytes mx rt) {x : Int64} {y : Int32} (hd : decode bytes pc = .ok (.lushr, 1)) (hp : pc + 1 = pc') (H : Go E R n0 Q h k n pc' Ls (.long (XT.ushrL x y) :: st)) : Go E R n0 Q h k n pc Ls (.int y :: .long x :: st) := by
  subst hp; exact go_step H fun T locs t X _ q => XT.lushr X.here C.1 rfl (hb C.2.1 hd) rfl q
theorem go_ldiv (C : Cx E Z own nm bytes mx rt) {x y : Int64} (hd : decode bytes pc = .ok (.ldiv, 1)) (hy : y ≠ 0) (hp : pc + 1 = pc') (H : Go E R n0 Q h k n pc' Ls (.long (x / y) :: st)) : Go E R n0 Q h k n pc Ls (.long y :: .long x :: st) := by
  subst hp; exact go_step H fun T locs t X _ q => XT.ldiv X.here C.1 rfl (hb C.2.1 hd) rfl hy q
theorem go_lrem (C : Cx E Z own nm bytes mx rt) {x y : Int64} (hd : decode bytes pc = .ok (.lrem, 1)) (hy : y ≠ 0) (hp : pc + 1 = pc') (H : Go E R n0 Q h k n pc' Ls (.long (x % y) :: st)) : Go E R n0 Q h k n pc Ls (.long y :: .long x :: st) := by
  subst hp; rw [← lrem_mod] at H; exact go_step H fun T locs t X _ q => XT.lrem X.here C.1 rfl (hb C.2.1 hd) rfl hy q
theorem go_i2l (C : Cx E Z own nm bytes mx rt) {x : Int32} (hd : decode bytes pc = .ok (.i2l, 1)) (hp : pc + 1 = pc') (H : Go E R n0 Q h k n pc' Ls (.long x.toInt64 :: st)) : Go E R n0 Q h k n pc Ls (.int x :: st) := by
  subst hp; exact go_step H fun T locs t X _ q => XT.i2l X.here C.1 rfl (hb C.2.1 hd) rfl q
theorem go_lcmp (C : Cx E Z own nm bytes mx rt) {x y : Int64} (hd : decode bytes pc = .ok (.lcmp, 1)) (hp : pc + 1 = pc') (H : Go E R n0 Q h k n pc' Ls (.int (XT.cmpL x y) :: st)) : Go E R n0 Q h k n pc Ls (.long y :: .long x :: st) := by
  subst hp; exact go_step H fun T locs t X _ q => XT.lcmp X.here C.1 rfl (hb C.2.1 hd) rfl q
theorem go_goto (C : Cx E Z own nm bytes mx rt) {o : Int} (hd : decode bytes pc = .ok (.goto o, 3)) (ho : 0 ≤ (pc : Int) + o) (hp : ((pc : Int) + o).toNat = pc') (H : Go E R n0 Q h k n pc' Ls st) : Go E R n0 Q h k n pc Ls st :=
  go_step H fun T locs t X _ q => XS.goto X.here C.1 rfl rfl (hb C.2.1 hd) ho hp q
theorem go_ifY (C : Cx E Z own nm bytes mx rt) {cd : ClassFile.Cond} {x : Int32} {o : Int} (hd : decode bytes pc = .ok (.ifCond cd o, 3)) (hc : ifCond.holds cd x = true) (ho : 0 ≤ (pc : Int) + o) (hp : ((pc : Int) + o).toNat = pc') (H : Go E R n0 Q h k n pc' Ls st) : Go E R n0 Q h k n pc Ls (.int x :: st) :=
  go_step H fun T locs t X _ q => XS.ifYes X.here C.1 rfl rfl (hb C.2.1 hd) rfl hc ho hp q
theorem go_ifN (C : Cx E Z own nm bytes mx rt) {cd : ClassFile.Cond} {x : Int32} {o : Int} (hd : decode bytes pc = .ok (.ifCond cd o, 3)) (hc : ifCond.holds cd x = false) (hp : pc + 3 = pc') (H : Go E R n0 Q h k n pc' Ls st) : Go E R n0 Q h k n pc Ls (.int x :: st) := by
  subst hp; exact go_step H fun T locs t X _ q => XS.ifNo X.here C.1 rfl (hb C.2.1 hd) rfl hc q
theorem go_icY (C : Cx E Z own nm bytes mx rt) {cd : ClassFile.Cond} {x y : Int32} {o : Int} (hd : decode bytes pc = .ok (.if_icmp cd o, 3)) (hc : if_icmp.holds cd x y = true) (ho : 0 ≤ (pc : Int) + o) (hp : ((pc : Int) + o).toNat = pc') (H : Go E R n0 Q h k n pc' Ls st) : Go E R n0 Q h k n pc Ls (.int y :: .int x :: st) :=
  go_step H fun T locs t X _ q => XS.icmpYes X.here C.1 rfl rfl (hb C.2.1 hd) rfl hc ho hp q
theorem go_icN (C : Cx E Z own nm bytes mx rt) {cd : ClassFile.Cond} {x y : Int32} {o : Int} (hd : decode bytes pc = .ok (.if_icmp cd o, 3)) (hc : if_icmp.holds cd x y = false) (hp : pc + 3 = pc') (H : Go E R n0 Q h k n pc' Ls st) : Go E R n0 Q h k n pc Ls (.int y :: .int x :: st) := by
  subst hp; exact go_step H fun T locs t X _ q => XS.icmpNo X.here C.1 rfl (hb C.2.1 hd) rfl hc q
/-- what a comparison asks, as a proposition -/
def rel : ClassFile.Cond → Int32 → Int32 → Prop
  | .eq, x, y => x.toInt = y.toInt
  | .ne, x, y => ¬ x.toInt = y.toInt
  | .lt, x, y => x.toInt < y.toInt
  | .ge, x, y => y.toInt ≤ x.toInt
  | .gt, x, y => y.toInt < x.toInt
  | .le, x, y => x.toInt ≤ y.toInt
theorem rel_holds (cd : ClassFile.Cond) (x y : Int32) : if_icmp.holds cd x y = true ↔ rel cd x y := by
  cases cd <;> simp [if_icmp.holds, rel, Int32.lt_iff_toInt_lt, Int32.le_iff_toInt_le, Int32.toInt_inj]
theorem rel_holds0 (cd : ClassFile.Cond) (x : Int32) : ifCond.holds cd x = true ↔ rel cd x 0 := by rw [if0]; exact rel_holds cd x 0
/-- both ways of a comparison -/
theorem go_ic (C : Cx E Z own nm bytes mx rt) {cd : ClassFile.Cond} {x y : Int32} {o : Int} {pcY pcN : Nat} (hd : decode bytes pc = .ok (.if_icmp cd o, 3)) (ho : 0 ≤ (pc : Int) + o) (hpY : ((pc : Int) + o).toNat = pcY) (hpN : pc + 3 = pcN)
    (HY : rel cd x y → Go E R n0 Q h k n pcY Ls st) (HN : ¬ rel cd x y → Go E R n0 Q h k n pcN Ls st) : Go E R n0 Q h k n pc Ls (.int y :: .int x :: st) := by
  cases q : if_icmp.holds cd x y with
  | true => exact go_icY C hd q ho hpY (HY ((rel_holds cd x y).mp q))
  | false => exact go_icN C hd q hpN (HN fun r => by rw [(rel_holds cd x y).mpr r] at q; cases q)
theorem go_if (C : Cx E Z own nm bytes mx rt) {cd : ClassFile.Cond} {x : Int32} {o : Int} {pcY pcN : Nat} (hd : decode bytes pc = .ok (.ifCond cd o, 3)) (ho : 0 ≤ (pc : Int) + o) (hpY : ((pc : Int) + o).toNat = pcY) (hpN : pc + 3 = pcN)
    (HY : rel cd x 0 → Go E R n0 Q h k n pcY Ls st) (HN : ¬ rel cd x 0 → Go E R n0 Q h k n pcN Ls st) : Go E R n0 Q h k n pc Ls (.int x :: st) := by
  cases q : ifCond.holds cd x with
  | true => exact go_ifY C hd q ho hpY (HY ((rel_holds0 cd x).mp q))
  | false => exact go_ifN C hd q hpN (HN fun r => by rw [(rel_holds0 cd x).mpr r] at q; cases q)
/-! the ends -/
theorem go_end {v : Option Value} (hr : ∀ T locs, Sd E R T locs k n → ∀ fs, (∀ (f : JFrame) (acts : List Action), f.method = E.2.2.2.2.1 → f.locked = none → f.entered = [] → (doReturn E.2.2.1 (T.setTop f) acts v).1 = T.setFrames fs) → Sp E (T.setTop (mkF E.2.2.2.2.1 pc Ls st)) (T.setFrames fs))
    (hlk : E.2.2.2.2.2.2.2.1.locks = false) (hv : E.2.2.2.2.2.2.2.1.sig.returnType = none → v = none) (hk : k ≤ R.cells) (hn : n ≤ R.slots) (hQ : Q v h) : Go E R n0 Q h k n pc Ls st := fun T locs X hh N => by
  obtain ⟨fs, q1, q2, q3, q4, q5⟩ := X.leave (v := v) hv hlk
  exact ⟨_, _, hr T locs X fs q1, q2, q3, _, _, rfl, ⟨by show Q v T.heap; rw [hh]; exact hQ, N⟩, ⟨_, rfl⟩, q4, q5.mono hk hn⟩
theorem go_retI (C : Cx E Z own nm bytes mx (some .int)) {z : Int32} (hd : decode bytes pc = .ok (.ireturn, 1)) (hk : k ≤ R.cells) (hn : n ≤ R.slots) (hQ : Q (some (.int z)) h) : Go E R n0 Q h k n pc Ls (.int z :: st) :=
  go_end (fun T locs X fs hl => retOut X C.1 (w := .int z) (t := .int) C.2.2.2.2.2.1 rfl (Or.inl ⟨rfl, Or.inl rfl, _, rfl⟩) (hb C.2.1 hd) hl) C.2.2.2.2.2.2.1 (fun q => by rw [C.2.2.2.2.2.1] at q; cases q) hk hn hQ
theorem go_retZ (C : Cx E Z own nm bytes mx (some .boolean)) {z : Int32} (hd : decode bytes pc = .ok (.ireturn, 1)) (hz : z = 0 ∨ z = 1) (hk : k ≤ R.cells) (hn : n ≤ R.slots) (hQ : Q (some (.int z)) h) : Go E R n0 Q h k n pc Ls (.int z :: st) :=
  go_end (fun T locs X fs hl => retOut X C.1 (w := .int z) (t := .boolean) C.2.2.2.2.2.1 (by rcases hz with rfl | rfl <;> rfl) (Or.inl ⟨rfl, Or.inr (Or.inl rfl), _, rfl⟩) (hb C.2.1 hd) hl) C.2.2.2.2.2.2.1 (fun q => by rw [C.2.2.2.2.2.1] at q; cases q) hk hn hQ
theorem go_retL (C : Cx E Z own nm bytes mx (some .long)) {z : Int64} (hd : decode bytes pc = .ok (.lreturn, 1)) (hk : k ≤ R.cells) (hn : n ≤ R.slots) (hQ : Q (some (.long z)) h) : Go E R n0 Q h k n pc Ls (.long z :: st) :=
  go_end (fun T locs X fs hl => retOut X C.1 (w := .long z) (t := .long) C.2.2.2.2.2.1 rfl (Or.inr (Or.inl ⟨rfl, rfl, _, rfl⟩)) (hb C.2.1 hd) hl) C.2.2.2.2.2.2.1 (fun q => by rw [C.2.2.2.2.2.1] at q; cases q) hk hn hQ
theorem go_retA {t : FieldType} (C : Cx E Z own nm bytes mx (some t)) {w : Value} (hd : decode bytes pc = .ok (.areturn, 1)) (ht : t.isReference = true) (hw : w.isRef = true) (hnw : narrow t w = w) (hk : k ≤ R.cells) (hn : n ≤ R.slots) (hQ : Q (some w) h) : Go E R n0 Q h k n pc Ls (w :: st) :=
  go_end (fun T locs X fs hl => retOut X C.1 (w := w) (t := t) C.2.2.2.2.2.1 hnw (Or.inr (Or.inr (Or.inr (Or.inr ⟨rfl, ht, hw⟩)))) (hb C.2.1 hd) hl) C.2.2.2.2.2.2.1 (fun q => by rw [C.2.2.2.2.2.1] at q; cases q) hk hn hQ
theorem go_retV (C : Cx E Z own nm bytes mx none) (hd : decode bytes pc = .ok (.return_, 1)) (hk : k ≤ R.cells) (hn : n ≤ R.slots) (hQ : Q none h) : Go E R n0 Q h k n pc Ls [] :=
  go_end (fun T locs X fs hl => X.returnOut C.1 C.2.2.2.2.2.1 (hb C.2.1 hd) hl) C.2.2.2.2.2.2.1 (fun _ => rfl) hk hn hQ
/-! calls -/
theorem go_callS (C : Cx E Z own nm bytes mx rt) {i : Nat} {y : MethodName} {by' : ByteArray} {mx' : Nat} {rt' : Option FieldType} {rm : Room} {Qc : Option Value → Heap → Prop} {argsL : List Value}
    (w1 : (Cond.methodLink own i y).before a0 Z = true) (w2 : (Cond.static y).before a0 Z = true) (w3 : (Cond.initialized y.cls).before a0 Z = true) (w4 : (Cond.code y by' mx' rt').before a0 Z = true)
    (hM : Met Z y by' mx' rt' rm argsL.toArray h n0 Qc) (hd : decode bytes pc = .ok (.invokestatic i, 3)) (hsz : Ls.size = mx) (hst : st = argsL.reverse ++ rest)
    (hlen : ∀ sig, parseMethodDescriptor y.desc = some sig → argsL.length = sig.parameters.length) (hy : y.cls ≠ "java/lang/invoke/MethodHandle" ∧ y.cls ≠ "java/lang/invoke/VarHandle")
    (hfr : rm.frames + 1 ≤ R.frames) (W : Nat) (hW : (rest.map fun v => v.category).sum = W) (hlo : W + (mx' + 11) + rm.locals ≤ R.locals) {k' n' : Nat} (hk' : k + rm.cells = k') (hn' : n + rm.slots = n') (hc : k' ≤ R.cells) (hs : n' ≤ R.slots) (hp : pc + 3 = pc')
    (H : ∀ v h', Qc v h' → Go E R n0 Q h' k' n' pc' Ls (v.toList ++ rest)) : Go E R n0 Q h k n pc Ls st := fun T locs X hh N => by
  subst hp hW hk' hn'
  obtain ⟨v, vm, ⟨T', L', k', n'⟩, -, X', ⟨Lc, hQc, l1, y1, z1⟩, stp⟩ := Jvm.LawKit.callS X C.1 (y := y) C.2.2.2.2.1 (mvT C.2.2.2.1 w1) (mvT C.2.2.2.1 w2) (mvT C.2.2.2.1 w3) (mvT C.2.2.2.1 w4) hy
    (backOf (Q := fun v h L => Qc v h ∧ Fr n0 L) (W := (rest.map fun v => v.category).sum) (hM E.2.1 []) C.2.2.2.1 w4 w3 hfr hlo) (g := mkF E.2.2.2.2.1 pc Ls st) rfl (hsz.trans C.2.2.1.symm) (argsL := argsL) (rest := rest) hlen hst (by show 2 * 0 + _ ≤ _; omega) (hb C.2.1 hd) (fun _ _ => ⟨rfl, hh, hc, hs⟩)
  dsimp only [Pt.U, Pt.locs, Pt.cells, Pt.slots] at X' l1 y1 z1 stp hQc
  subst l1 y1 z1
  obtain ⟨s₂, o, q1, q⟩ := H v _ hQc.1 T' _ X' rfl (Fr.app N hQc.2)
  exact ⟨s₂, o, stp _ q1, q⟩
theorem go_callC (C : Cx E Z own nm bytes mx rt) {i : Nat} {y : MethodName} {by' : ByteArray} {mx' : Nat} {rm : Room} {Qc : Option Value → Heap → Prop} {argsL : List Value} {a : Nat}
    (w1 : (Cond.methodLink own i y).before a0 Z = true) (w2 : (Cond.instanceMethod y).before a0 Z = true) (w3 : (Cond.initialized y.cls).before a0 Z = true) (w4 : (Cond.code y by' mx' none).before a0 Z = true) (hni : y.name = "<init>")
    (hM : Met Z y by' mx' none rm (.ref a :: argsL).toArray h n0 Qc) (hd : decode bytes pc = .ok (.invokespecial i, 3)) (hsz : Ls.size = mx) (hst : st = argsL.reverse ++ .ref a :: rest)
    (hlen : ∀ sig, parseMethodDescriptor y.desc = some sig → argsL.length = sig.parameters.length) (hy : y.cls ≠ "java/lang/invoke/MethodHandle" ∧ y.cls ≠ "java/lang/invoke/VarHandle")
    (hfr : rm.frames + 1 ≤ R.frames) (W : Nat) (hW : (rest.map fun v => v.category).sum = W) (hlo : W + (mx' + 11) + rm.locals ≤ R.locals) {k' n' : Nat} (hk' : k + rm.cells = k') (hn' : n + rm.slots = n') (hc : k' ≤ R.cells) (hs : n' ≤ R.slots) (hp : pc + 3 = pc')
    (H : ∀ v h', Qc v h' → Go E R n0 Q h' k' n' pc' Ls (v.toList ++ rest)) : Go E R n0 Q h k n pc Ls st := fun T locs X hh N => by
  subst hp hW hk' hn'
  obtain ⟨v, vm, ⟨T', L', k', n'⟩, -, X', ⟨Lc, hQc, l1, y1, z1⟩, stp⟩ := X.specialBack C.1 (y := y) hni C.2.2.2.2.1 (mvT C.2.2.2.1 w1) (mvT C.2.2.2.1 w2) (mvT C.2.2.2.1 w4) hy
    (backOf (Q := fun v h L => Qc v h ∧ Fr n0 L) (W := (rest.map fun v => v.category).sum) (hM E.2.1 []) C.2.2.2.1 w4 w3 hfr hlo) (g := mkF E.2.2.2.2.1 pc Ls st) rfl (hsz.trans C.2.2.1.symm) (Steps.refl _) (a := a) (argsL := argsL) (rest := rest) hlen hst (by show 2 * 0 + _ ≤ _; omega) (hb C.2.1 hd) (fun _ _ => ⟨rfl, hh, hc, hs⟩)
  dsimp only [Pt.U, Pt.locs, Pt.cells, Pt.slots] at X' l1 y1 z1 stp hQc
  subst l1 y1 z1
  obtain ⟨s₂, o, q1, q⟩ := H v _ hQc.1 T' _ X' rfl (Fr.app N hQc.2)
  exact ⟨s₂, o, stp.trans q1, q⟩
theorem go_callV (C : Cx E Z own nm bytes mx rt) {i : Nat} {y : MethodName} {by' : ByteArray} {mx' : Nat} {rt' : Option FieldType} {rm : Room} {Qc : Option Value → Heap → Prop} {argsL : List Value} {a : Nat} {K : String}
    (w1 : (Cond.methodLink own i y).before a0 Z = true) (w2 : (Cond.declares y).before a0 Z = true) (w3 : (Cond.selects K y y).before a0 Z = true) (w4 : (Cond.instanceMethod y).before a0 Z = true) (w5 : (Cond.initialized y.cls).before a0 Z = true) (w6 : (Cond.code y by' mx' rt').before a0 Z = true)
    (hE : Exa Z h a K) (hM : Met Z y by' mx' rt' rm (.ref a :: argsL).toArray h n0 Qc) (hd : decode bytes pc = .ok (.invokevirtual i, 3)) (hsz : Ls.size = mx) (hst : st = argsL.reverse ++ .ref a :: rest)
    (hlen : ∀ sig, parseMethodDescriptor y.desc = some sig → argsL.length = sig.parameters.length) (hy : y.cls ≠ "java/lang/invoke/MethodHandle" ∧ y.cls ≠ "java/lang/invoke/VarHandle")
    (hfr : rm.frames + 1 ≤ R.frames) (W : Nat) (hW : (rest.map fun v => v.category).sum = W) (hlo : W + (mx' + 11) + rm.locals ≤ R.locals) {k' n' : Nat} (hk' : k + rm.cells = k') (hn' : n + rm.slots = n') (hc : k' ≤ R.cells) (hs : n' ≤ R.slots) (hp : pc + 3 = pc')
    (H : ∀ v h', Qc v h' → Go E R n0 Q h' k' n' pc' Ls (v.toList ++ rest)) : Go E R n0 Q h k n pc Ls st := fun T locs X hh N => by
  subst hp hW hk' hn'
  obtain ⟨cq, kq, qa, qb, qc⟩ := isOf C.2.2.2.1 hh hE
  obtain ⟨v, vm, ⟨T', L', k', n'⟩, -, X', ⟨Lc, hQc, l1, y1, z1⟩, stp⟩ := X.virtualBack C.1 (y := y) (z := y) C.2.2.2.2.1 (mvT C.2.2.2.1 w1) (mvT C.2.2.2.1 w2) (notFace_of_selects (args := #[]) (mvT C.2.2.2.1 w3)) (mvT C.2.2.2.1 w3) (mvT C.2.2.2.1 w4) hy
    (backOf (Q := fun v h L => Qc v h ∧ Fr n0 L) (W := (rest.map fun v => v.category).sum) (hM E.2.1 []) C.2.2.2.1 w6 w5 hfr hlo) qa qc (g := mkF E.2.2.2.2.1 pc Ls st) rfl (hsz.trans C.2.2.1.symm) (Steps.refl _) (argsL := argsL) (rest := rest) hlen hst (by show 2 * 0 + _ ≤ _; omega) (hb C.2.1 hd) (fun _ _ => ⟨rfl, hh, hc, hs⟩)
  dsimp only [Pt.U, Pt.locs, Pt.cells, Pt.slots] at X' l1 y1 z1 stp hQc
  subst l1 y1 z1
  obtain ⟨s₂, o, q1, q⟩ := H v _ hQc.1 T' _ X' rfl (Fr.app N hQc.2)
  exact ⟨s₂, o, stp.trans q1, q⟩
/-! objects and fields -/
theorem go_newO (C : Cx E Z own nm bytes mx rt) {i cnt : Nat} {K : String} (w1 : (Cond.classLink own i K).before a0 Z = true) (w2 : (Cond.instantiable K cnt).before a0 Z = true) (w3 : (Cond.initialized K).before a0 Z = true) (hd : decode bytes pc = .ok (.new i, 3)) {k' n' : Nat} (hk' : k + 1 = k') (hn' : n + cnt = n') (hc : k' ≤ R.cells) (hs : n' ≤ R.slots) (hp : pc + 3 = pc')
    (H : ∀ h', Ext h h' → Exa Z h' h.size K → (∀ {O f d : String} {ty : FieldType}, Laid Z a0 K O f d → parseFieldDescriptor d = some ty → Fld Z h' h.size O f d (defaultValue ty)) → Go E R n0 Q h' k' n' pc' Ls (.ref h.size :: st)) : Go E R n0 Q h k n pc Ls st := fun T locs X hh N => by
  subst hp hk' hn'
  obtain ⟨T', h', X', e', e2, A2, D2, -, stp⟩ := newO X C.1 C.2.2.2.1 C.2.2.2.2.1 w1 w2 w3 hh (g := mkF E.2.2.2.2.1 pc Ls st) rfl (hb C.2.1 hd) hc hs
  obtain ⟨s₂, o, q1, q⟩ := H h' e2 A2 D2 T' _ X' e' N
  exact ⟨s₂, o, stp _ q1, q⟩
theorem go_getF (C : Cx E Z own nm bytes mx rt) {i : Nat} {a : Nat} {O f d : String} {v : Value} (w1 : (Cond.fieldLink own i O f d).before a0 Z = true) (F : Fld Z h a O f d v) (hd : decode bytes pc = .ok (.getfield i, 3)) (hp : pc + 3 = pc') (H : Go E R n0 Q h k n pc' Ls (v :: st)) : Go E R n0 Q h k n pc Ls (.ref a :: st) := fun T locs X hh N => by
  subst hp
  obtain ⟨T', X', e', stp⟩ := getF X C.1 C.2.2.2.1 C.2.2.2.2.1 (host := "") (Or.inl w1) Via.refl hh F (g := mkF E.2.2.2.2.1 pc Ls (.ref a :: st)) rfl rfl (hb C.2.1 hd)
  obtain ⟨s₂, o, q1, q⟩ := H T' _ X' e' N
  exact ⟨s₂, o, stp _ q1, q⟩
theorem go_putF (C : Cx E Z own nm bytes mx rt) {i kk : Nat} {a : Nat} {O f d K : String} {v old : Value} {ty : FieldType} (w1 : (Cond.fieldLink own i O f d).before a0 Z = true) (F : Fld Z h a O f d old) (A : Exa Z h a K) (L : (Cond.lays K O f d).before a0 Z = true ∨ ((Cond.laysFinal K O f d).before a0 Z = true ∧ own = O ∧ nm = "<init>")) (wi : (Cond.instantiable K kk).before a0 Z = true)
    (hty : parseFieldDescriptor d = some ty) (hnw : narrow ty v = v) (hf : fits ty v = true) (ge : n0 ≤ a) (hd : decode bytes pc = .ok (.putfield i, 3)) (hp : pc + 3 = pc') (H : ∀ h', Wr h h' a (Jvm.RoadKit.slotOf Z O f d) v → Go E R n0 Q h' k n pc' Ls st) : Go E R n0 Q h k n pc Ls (v :: .ref a :: st) := fun T locs X hh N => by
  subst hp
  obtain ⟨T', h', X', e', W, stp⟩ := putF X C.1 C.2.2.2.1 C.2.2.2.2.1 (host := "") (Or.inl w1) Via.refl hh F A (L.imp id fun q => ⟨q.1, q.2.1, C.2.2.2.2.2.2.2.trans q.2.2⟩) wi hty hnw hf (g := mkF E.2.2.2.2.1 pc Ls (v :: .ref a :: st)) rfl rfl (hb C.2.1 hd)
  obtain ⟨s₂, o, q1, q⟩ := H h' W T' _ X' e' (Fr.snoc X' N ge)
  exact ⟨s₂, o, stp _ q1, q⟩
theorem go_getS (C : Cx E Z own nm bytes mx rt) {i : Nat} {O f d : String} {v : Value} (w1 : (Cond.fieldLink own i O f d).before a0 Z = true) (F : Sta Z h O f d v) (hd : decode bytes pc = .ok (.getstatic i, 3)) (hp : pc + 3 = pc') (H : Go E R n0 Q h k n pc' Ls (v :: st)) : Go E R n0 Q h k n pc Ls st := fun T locs X hh N => by
  subst hp
  obtain ⟨T', X', e', stp⟩ := getS X C.1 C.2.2.2.1 C.2.2.2.2.1 (host := "") w1 Via.refl hh F (g := mkF E.2.2.2.2.1 pc Ls st) rfl (hb C.2.1 hd)
  obtain ⟨s₂, o, q1, q⟩ := H T' _ X' e' N
  exact ⟨s₂, o, stp _ q1, q⟩
theorem sta_keep {h' : Heap} {O f d : String} {v : Value} {ws : List Nat} (F : Sta Z h O f d v) (K : Keep h h' ws) (q : ∀ x ∈ ws, ∃ D, Exa Z h x D) : Sta Z h' O f d v := by
  obtain ⟨cf, i, k, f, st, cell, h1, h2, h3, h4, h5, h6, h7⟩ := F
  refine ⟨cf, i, k, f, st, cell, h1, h2, h3, h4, K.2.1 st cell h5 (fun hm => ?_), h6, h7⟩
  obtain ⟨D, c, k', e1, -, -, e4, -⟩ := q st hm
  cases e1.symm.trans h5
  rw [h6] at e4; cases e4
/-! arrays -/
theorem go_newP (C : Cx E Z own nm bytes mx rt) {aty : ArrayType} {z : Int32} {cap : Nat} (w1 : (Cond.arrayClass (newarray.typeOf aty)).before a0 Z = true) (hd : decode bytes pc = .ok (.newarray aty, 2)) (hn : ¬ z < 0) (hcap : z.toNatClampNeg ≤ cap) (hb8 : cap * 8 ≤ 536870912) {k' n' : Nat} (hk' : k + 1 = k') (hn' : n + cap = n') (hc : k' ≤ R.cells) (hs : n' ≤ R.slots) (hp : pc + 2 = pc')
    (H : ∀ h' cA, Ext h h' → Arr Z h' h.size (newA cA (newarray.typeOf aty) z) (newarray.typeOf aty) → Go E R n0 Q h' k' n' pc' Ls (.ref h.size :: st)) : Go E R n0 Q h k n pc Ls (.int z :: st) := fun T locs X hh N => by
  subst hp hk' hn'
  obtain ⟨T', h', cA, X', e', e2, A2, stp⟩ := newP X C.1 C.2.2.2.1 w1 hh (g := mkF E.2.2.2.2.1 pc Ls (.int z :: st)) rfl (hb C.2.1 hd) rfl hn hcap hb8 hc hs
  obtain ⟨s₂, o, q1, q⟩ := H h' cA e2 A2 T' _ X' e' N
  exact ⟨s₂, o, stp _ q1, q⟩
/-- an array of ints (or bytes, or booleans) by its list -/
def Ai (Z : State) (h : Heap) (a : Nat) (ty : FieldType) (xs : List Int32) : Prop := ∃ c : Cell, Arr Z h a c ty ∧ c.slots = (xs.map Value.int).toArray ∧ xs.length < 2 ^ 31
theorem Ai.lt {a : Nat} {ty : FieldType} {xs : List Int32} (F : Ai Z h a ty xs) : a < h.size := by obtain ⟨c, A, -⟩ := F; exact A.lt
theorem Ai.ext {h' : Heap} {a : Nat} {ty : FieldType} {xs : List Int32} (F : Ai Z h a ty xs) (e : Ext h h') : Ai Z h' a ty xs := by obtain ⟨c, A, r⟩ := F; exact ⟨c, A.ext e, r⟩
theorem Ai.other {h' : Heap} {a b : Nat} {sl : Nat} {v : Value} {ty : FieldType} {xs : List Int32} (F : Ai Z h b ty xs) (W : Wr h h' a sl v) (q : b ≠ a) : Ai Z h' b ty xs := by obtain ⟨c, A, r⟩ := F; exact ⟨c, A.other W q, r⟩
theorem Ai.keep {h' : Heap} {a : Nat} {ws : List Nat} {ty : FieldType} {xs : List Int32} (F : Ai Z h a ty xs) (K : Keep h h' ws) (q : a ∉ ws) : Ai Z h' a ty xs := by obtain ⟨c, A, r⟩ := F; exact ⟨c, ⟨K.2.1 a c A.1 q, A.2⟩, r⟩
theorem Ai.set {h' : Heap} {a : Nat} {i : Nat} {v : Int32} {ty : FieldType} {xs : List Int32} (F : Ai Z h a ty xs) (W : Wr h h' a i (.int v)) : Ai Z h' a ty (xs.set i v) := by
  obtain ⟨c, A, r, q⟩ := F
  refine ⟨_, A.same W, ?_, by simpa using q⟩
  show c.slots.setIfInBounds i (.int v) = _
  rw [r]; apply Array.toList_inj.mp; simp [List.map_set]
theorem Ai.new {cA : ClassId} {a : Nat} {z : Int32} {ty : FieldType} (A : Arr Z h a (newA cA ty z) ty) (hz : ¬ z < 0) (hd : defaultValue ty = .int 0) : Ai Z h a ty (List.replicate z.toNatClampNeg 0) := by
  refine ⟨_, A, ?_, by simpa using (back32 hz).2⟩
  show Array.replicate z.toNatClampNeg (defaultValue ty) = _
  rw [hd]; apply Array.toList_inj.mp; simp
theorem Ai.bound {c : Cell} {xs : List Int32} {j : Int32} (e : c.slots = (xs.map Value.int).toArray) (h0 : 0 ≤ j.toInt) (h1 : j.toInt < xs.length) : ¬ (j < 0 ∨ c.slots.size ≤ j.toNatClampNeg) := by
  rw [e]; simp only [List.size_toArray, List.length_map, Int32.lt_iff_toInt_lt, Int32.toNatClampNeg, Int32.reduceToInt]; omega
theorem go_alen (C : Cx E Z own nm bytes mx rt) {a : Nat} {ty : FieldType} {xs : List Int32} {z : Int32} (F : Ai Z h a ty xs) (hd : decode bytes pc = .ok (.arraylength, 1)) (hz : xs.length.toInt32 = z) (hp : pc + 1 = pc') (H : Go E R n0 Q h k n pc' Ls (.int z :: st)) : Go E R n0 Q h k n pc Ls (.ref a :: st) := by
  subst hp hz
  obtain ⟨c, A, r, q⟩ := F
  refine go_step H fun T locs t X hh s2 => X.arraylength C.1 (by rw [hh]; exact A.1) (State.isArrayOf_alike C.2.2.2.1.alike A.2.1) (g := mkF E.2.2.2.2.1 pc Ls (.ref a :: st)) rfl rfl (hb C.2.1 hd) t ?_
  rw [r]; simpa using s2
theorem ai_get {xs : List Int32} {j v : Int32} {i : Nat} (hi : j.toInt = (i : Int)) (hv : xs[i]? = some v) : ((xs.map Value.int).toArray)[j.toNatClampNeg]? = some (.int v) := by
  have e : j.toNatClampNeg = i := by show j.toInt.toNat = i; omega
  rw [e]; simp [hv]
theorem go_iaload (C : Cx E Z own nm bytes mx rt) {a : Nat} {xs : List Int32} {j v : Int32} (F : Ai Z h a .int xs) {i : Nat} (hi : j.toInt = (i : Int)) (hv : xs[i]? = some v) (hd : decode bytes pc = .ok (.iaload, 1)) (hp : pc + 1 = pc') (H : Go E R n0 Q h k n pc' Ls (.int v :: st)) : Go E R n0 Q h k n pc Ls (.int j :: .ref a :: st) := by
  subst hp
  obtain ⟨c, A, r, q⟩ := F
  have hb1 := Ai.bound (j := j) r (by omega) (by have := (List.getElem?_eq_some_iff.mp hv).1; omega)
  exact go_step H fun T locs t X hh s2 => X.iaload C.1 (by rw [hh]; exact A.1) (State.isArrayOf_alike C.2.2.2.1.alike A.2.1) A.2.2 hb1 (by rw [r]; exact ai_get hi hv) (g := mkF E.2.2.2.2.1 pc Ls (.int j :: .ref a :: st)) rfl rfl (hb C.2.1 hd) t s2
theorem go_baloadB (C : Cx E Z own nm bytes mx rt) {a : Nat} {xs : List Int32} {j v : Int32} (F : Ai Z h a .byte xs) {i : Nat} (hi : j.toInt = (i : Int)) (hv : xs[i]? = some v) (hd : decode bytes pc = .ok (.baload, 1)) (hp : pc + 1 = pc') (H : Go E R n0 Q h k n pc' Ls (.int v :: st)) : Go E R n0 Q h k n pc Ls (.int j :: .ref a :: st) := by
  subst hp
  obtain ⟨c, A, r, q⟩ := F
  have hb1 := Ai.bound (j := j) r (by omega) (by have := (List.getElem?_eq_some_iff.mp hv).1; omega)
  exact go_step H fun T locs t X hh s2 => X.baloadBytes C.1 (by rw [hh]; exact A.1) (State.isArrayOf_alike C.2.2.2.1.alike A.2.1) A.2.2 hb1 (by rw [r]; exact ai_get hi hv) (g := mkF E.2.2.2.2.1 pc Ls (.int j :: .ref a :: st)) rfl rfl (hb C.2.1 hd) t s2
theorem go_baloadZ (C : Cx E Z own nm bytes mx rt) {a : Nat} {xs : List Int32} {j v : Int32} (F : Ai Z h a .boolean xs) {i : Nat} (hi : j.toInt = (i : Int)) (hv : xs[i]? = some v) (hd : decode bytes pc = .ok (.baload, 1)) (hp : pc + 1 = pc') (H : Go E R n0 Q h k n pc' Ls (.int v :: st)) : Go E R n0 Q h k n pc Ls (.int j :: .ref a :: st) := by
  subst hp
  obtain ⟨c, A, r, q⟩ := F
  have hb1 := Ai.bound (j := j) r (by omega) (by have := (List.getElem?_eq_some_iff.mp hv).1; omega)
  exact go_step H fun T locs t X hh s2 => X.baloadBooleans C.1 (by rw [hh]; exact A.1) (State.isArrayOf_alike C.2.2.2.1.alike A.2.1) A.2.2 hb1 (by rw [r]; exact ai_get hi hv) (g := mkF E.2.2.2.2.1 pc Ls (.int j :: .ref a :: st)) rfl rfl (hb C.2.1 hd) t s2
theorem go_iastore (C : Cx E Z own nm bytes mx rt) {a : Nat} {xs : List Int32} {j v : Int32} (F : Ai Z h a .int xs) {i : Nat} {xs' : List Int32} (hi : j.toInt = (i : Int)) (h1 : i < xs.length) (hxs : xs.set i v = xs') (ge : n0 ≤ a) (hd : decode bytes pc = .ok (.iastore, 1)) (hp : pc + 1 = pc')
    (H : ∀ h', Wr h h' a i (.int v) → Ai Z h' a .int xs' → Go E R n0 Q h' k n pc' Ls st) : Go E R n0 Q h k n pc Ls (.int v :: .int j :: .ref a :: st) := fun T locs X hh N => by
  subst hp
  have F' := F
  obtain ⟨c, A, r, q⟩ := F
  obtain ⟨T', h', X', e', W, stp⟩ := stI X C.1 C.2.2.2.1 hh A (Ai.bound r (by omega) (by omega)) (g := mkF E.2.2.2.2.1 pc Ls (.int v :: .int j :: .ref a :: st)) rfl rfl (hb C.2.1 hd)
  have ei : j.toNatClampNeg = i := by show j.toInt.toNat = i; omega
  rw [ei] at W
  obtain ⟨s₂, o, q1, q⟩ := H h' W (hxs ▸ F'.set W) T' _ X' e' (Fr.snoc X' N ge)
  exact ⟨s₂, o, stp _ q1, q⟩
theorem go_bastoreZ (C : Cx E Z own nm bytes mx rt) {a : Nat} {xs : List Int32} {j v : Int32} (F : Ai Z h a .boolean xs) {i : Nat} {xs' : List Int32} (hi : j.toInt = (i : Int)) (h1 : i < xs.length) (hxs : xs.set i v = xs') (hv : v = 0 ∨ v = 1) (ge : n0 ≤ a) (hd : decode bytes pc = .ok (.bastore, 1)) (hp : pc + 1 = pc')
    (H : ∀ h', Wr h h' a i (.int v) → Ai Z h' a .boolean xs' → Go E R n0 Q h' k n pc' Ls st) : Go E R n0 Q h k n pc Ls (.int v :: .int j :: .ref a :: st) := fun T locs X hh N => by
  subst hp
  have F' := F
  have nv : nar .boolean v = v := by rcases hv with rfl | rfl <;> rfl
  obtain ⟨c, A, r, q⟩ := F
  obtain ⟨T', h', X', e', W, stp⟩ := stZ X C.1 C.2.2.2.1 hh A (Ai.bound r (by omega) (by omega)) (g := mkF E.2.2.2.2.1 pc Ls (.int v :: .int j :: .ref a :: st)) rfl rfl (hb C.2.1 hd)
  have ei : j.toNatClampNeg = i := by show j.toInt.toNat = i; omega
  rw [ei] at W
  rw [nv] at W
  obtain ⟨s₂, o, q1, q⟩ := H h' W (hxs ▸ F'.set W) T' _ X' e' (Fr.snoc X' N ge)
  exact ⟨s₂, o, stp _ q1, q⟩
theorem go_bastoreB (C : Cx E Z own nm bytes mx rt) {a : Nat} {xs : List Int32} {j v : Int32} (F : Ai Z h a .byte xs) {i : Nat} {xs' : List Int32} (hi : j.toInt = (i : Int)) (h1 : i < xs.length) (hxs : xs.set i v = xs') (hv : nar .byte v = v) (ge : n0 ≤ a) (hd : decode bytes pc = .ok (.bastore, 1)) (hp : pc + 1 = pc')
    (H : ∀ h', Wr h h' a i (.int v) → Ai Z h' a .byte xs' → Go E R n0 Q h' k n pc' Ls st) : Go E R n0 Q h k n pc Ls (.int v :: .int j :: .ref a :: st) := fun T locs X hh N => by
  subst hp
  have F' := F
  obtain ⟨c, A, r, q⟩ := F
  obtain ⟨T', h', X', e', W, stp⟩ := stB X C.1 C.2.2.2.1 hh A (Ai.bound r (by omega) (by omega)) (g := mkF E.2.2.2.2.1 pc Ls (.int v :: .int j :: .ref a :: st)) rfl rfl (hb C.2.1 hd)
  have ei : j.toNatClampNeg = i := by show j.toInt.toNat = i; omega
  rw [ei] at W
  rw [hv] at W
  obtain ⟨s₂, o, q1, q⟩ := H h' W (hxs ▸ F'.set W) T' _ X' e' (Fr.snoc X' N ge)
  exact ⟨s₂, o, stp _ q1, q⟩
theorem go_initO (C : Cx E Z own nm bytes mx rt) {i : Nat} {a : Nat} (w1 : (Cond.methodLink own i Lib.objectInit).before a0 Z = true) (w2 : (Cond.instanceMethod Lib.objectInit).before a0 Z = true) (w3 : (Cond.code Lib.objectInit object_method_1_code 1 none).before a0 Z = true)
    (hd : decode bytes pc = .ok (.invokespecial i, 3)) (hsz : Ls.size = mx) (hf : 1 ≤ R.frames) (W : Nat) (hW : (st.map fun v => v.category).sum = W) (hlo : W + 12 ≤ R.locals) (hp : pc + 3 = pc') (H : Go E R n0 Q h k n pc' Ls st) : Go E R n0 Q h k n pc Ls (.ref a :: st) := fun T locs X hh N => by
  subst hp hW
  obtain ⟨T', X', e', stp⟩ := initO X C.1 C.2.2.2.1 C.2.2.2.2.1 w1 w2 w3 hh (g := mkF E.2.2.2.2.1 pc Ls (.ref a :: st)) rfl (hsz.trans C.2.2.1.symm) rfl (hb C.2.1 hd) hf (W := (st.map fun v => v.category).sum) (by show 2 * 0 + _ ≤ _; omega) hlo
  obtain ⟨s₂, o, q1, q⟩ := H T' _ X' e' N
  exact ⟨s₂, o, stp _ q1, q⟩
/-- an array of small naturals -/
abbrev An (Z : State) (h : Heap) (a : Nat) (ty : FieldType) (xs : List Nat) : Prop := Ai Z h a ty (xs.map Int32.ofNat)
theorem nat_i {n : Nat} (h : n < 2 ^ 31) : (Int32.ofNat n).toInt = (n : Int) := Int32.toInt_ofNat_small h
theorem An.small {a : Nat} {ty : FieldType} {xs : List Nat} (F : An Z h a ty xs) : xs.length < 2 ^ 31 := by obtain ⟨_, _, _, q⟩ := F; simpa using q
theorem An.setW {h' : Heap} {a : Nat} {ty : FieldType} {xs : List Nat} {i v : Nat} (F : An Z h a ty xs) (W : Wr h h' a i (.int (Int32.ofNat v))) : An Z h' a ty (xs.set i v) := by
  have q := Ai.set F W
  rwa [← List.map_set] at q
theorem an_at {xs : List Nat} {i v : Nat} (h : xs[i]? = some v) : (xs.map Int32.ofNat)[i]? = some (Int32.ofNat v) := by rw [List.getElem?_map, h]; rfl
theorem go_nload (C : Cx E Z own nm bytes mx rt) {a : Nat} {xs : List Nat} {i v : Nat} (F : An Z h a .int xs) (hv : xs[i]? = some v) (hd : decode bytes pc = .ok (.iaload, 1)) (hp : pc + 1 = pc') (H : Go E R n0 Q h k n pc' Ls (.int (Int32.ofNat v) :: st)) : Go E R n0 Q h k n pc Ls (.int (Int32.ofNat i) :: .ref a :: st) :=
  go_iaload C F (nat_i (by have := F.small; have := (List.getElem?_eq_some_iff.mp hv).1; omega)) (an_at hv) hd hp H
theorem go_nloadB (C : Cx E Z own nm bytes mx rt) {a : Nat} {xs : List Nat} {i v : Nat} (F : An Z h a .byte xs) (hv : xs[i]? = some v) (hd : decode bytes pc = .ok (.baload, 1)) (hp : pc + 1 = pc') (H : Go E R n0 Q h k n pc' Ls (.int (Int32.ofNat v) :: st)) : Go E R n0 Q h k n pc Ls (.int (Int32.ofNat i) :: .ref a :: st) :=
  go_baloadB C F (nat_i (by have := F.small; have := (List.getElem?_eq_some_iff.mp hv).1; omega)) (an_at hv) hd hp H
theorem go_nloadZ (C : Cx E Z own nm bytes mx rt) {a : Nat} {xs : List Nat} {i v : Nat} (F : An Z h a .boolean xs) (hv : xs[i]? = some v) (hd : decode bytes pc = .ok (.baload, 1)) (hp : pc + 1 = pc') (H : Go E R n0 Q h k n pc' Ls (.int (Int32.ofNat v) :: st)) : Go E R n0 Q h k n pc Ls (.int (Int32.ofNat i) :: .ref a :: st) :=
  go_baloadZ C F (nat_i (by have := F.small; have := (List.getElem?_eq_some_iff.mp hv).1; omega)) (an_at hv) hd hp H
theorem go_nstore (C : Cx E Z own nm bytes mx rt) {a : Nat} {xs : List Nat} {i v : Nat} (F : An Z h a .int xs) (h1 : i < xs.length) (ge : n0 ≤ a) (hd : decode bytes pc = .ok (.iastore, 1)) (hp : pc + 1 = pc')
    (H : ∀ h', Wr h h' a i (.int (Int32.ofNat v)) → Go E R n0 Q h' k n pc' Ls st) : Go E R n0 Q h k n pc Ls (.int (Int32.ofNat v) :: .int (Int32.ofNat i) :: .ref a :: st) :=
  go_iastore C F (nat_i (by have := F.small; omega)) (by simpa using h1) rfl ge hd hp (fun h' W _ => H h' W)
theorem go_nstoreZ (C : Cx E Z own nm bytes mx rt) {a : Nat} {xs : List Nat} {i v : Nat} (F : An Z h a .boolean xs) (h1 : i < xs.length) (hv : v = 0 ∨ v = 1) (ge : n0 ≤ a) (hd : decode bytes pc = .ok (.bastore, 1)) (hp : pc + 1 = pc')
    (H : ∀ h', Wr h h' a i (.int (Int32.ofNat v)) → Go E R n0 Q h' k n pc' Ls st) : Go E R n0 Q h k n pc Ls (.int (Int32.ofNat v) :: .int (Int32.ofNat i) :: .ref a :: st) :=
  go_bastoreZ C F (nat_i (by have := F.small; omega)) (by simpa using h1) rfl (by rcases hv with rfl | rfl <;> decide) ge hd hp (fun h' W _ => H h' W)
theorem go_nstoreB (C : Cx E Z own nm bytes mx rt) {a : Nat} {xs : List Nat} {i v : Nat} (F : An Z h a .byte xs) (h1 : i < xs.length) (hv : nar .byte (Int32.ofNat v) = Int32.ofNat v) (ge : n0 ≤ a) (hd : decode bytes pc = .ok (.bastore, 1)) (hp : pc + 1 = pc')
    (H : ∀ h', Wr h h' a i (.int (Int32.ofNat v)) → Go E R n0 Q h' k n pc' Ls st) : Go E R n0 Q h k n pc Ls (.int (Int32.ofNat v) :: .int (Int32.ofNat i) :: .ref a :: st) :=
  go_bastoreB C F (nat_i (by have := F.small; omega)) (by simpa using h1) rfl hv ge hd hp (fun h' W _ => H h' W)
theorem go_nalen (C : Cx E Z own nm bytes mx rt) {a : Nat} {ty : FieldType} {xs : List Nat} (F : An Z h a ty xs) (hd : decode bytes pc = .ok (.arraylength, 1)) (hp : pc + 1 = pc') (H : Go E R n0 Q h k n pc' Ls (.int (Int32.ofNat xs.length) :: st)) : Go E R n0 Q h k n pc Ls (.ref a :: st) :=
  go_alen C F hd (by rw [List.length_map]) hp H
theorem go_nnew (C : Cx E Z own nm bytes mx rt) {aty : ArrayType} {z : Nat} (w1 : (Cond.arrayClass (newarray.typeOf aty)).before a0 Z = true) (hdv : defaultValue (newarray.typeOf aty) = .int 0) (hz : z ≤ 60000000) (hd : decode bytes pc = .ok (.newarray aty, 2)) {k' n' : Nat} (hk' : k + 1 = k') (hn' : n + z = n') (hc : k' ≤ R.cells) (hs : n' ≤ R.slots) (hp : pc + 2 = pc')
    (H : ∀ h', Ext h h' → An Z h' h.size (newarray.typeOf aty) (List.replicate z 0) → Go E R n0 Q h' k' n' pc' Ls (.ref h.size :: st)) : Go E R n0 Q h k n pc Ls (.int (Int32.ofNat z) :: st) := by
  have q : (Int32.ofNat z).toInt = (z : Int) := nat_i (by omega)
  have q2 : ¬ Int32.ofNat z < 0 := by rw [Int32.lt_iff_toInt_lt, q]; show ¬ (z : Int) < 0; omega
  have q3 : (Int32.ofNat z).toNatClampNeg = z := by show (Int32.ofNat z).toInt.toNat = z; omega
  refine go_newP C (cap := z) w1 hd q2 (Nat.le_of_eq q3) (by omega) hk' hn' hc hs hp fun h' cA x A => H h' x ?_
  have B := Ai.new A q2 hdv
  rw [q3] at B
  show Ai Z h' h.size _ ((List.replicate z 0).map Int32.ofNat)
  rwa [List.map_replicate]
end GoKit
theorem pn0 : plainName "com/example/joinweave/joinweave/graph/UnionFind" = true := by first | (simp [plainName, overriddenIn]; done) | decide +kernel
theorem pn1 : plainFor (⟨"java/lang/Math", "max", "(II)I"⟩ : MethodName) = true := by decide +kernel
theorem pn2 : plainName "com/example/joinweave/joinweave/graph/UnionFindUndoPinLaw" = true := by first | (simp [plainName, overriddenIn]; done) | decide +kernel
theorem pd0 : parseMethodDescriptor "(I)V" = some ⟨[.int], none⟩ := by decide +kernel
theorem pd1 : parseMethodDescriptor "()V" = some ⟨[], none⟩ := by decide +kernel
theorem pd2 : parseMethodDescriptor "(II)I" = some ⟨[.int, .int], some .int⟩ := by decide +kernel
theorem pd3 : parseMethodDescriptor "(II)Z" = some ⟨[.int, .int], some .boolean⟩ := by decide +kernel
theorem pd4 : parseMethodDescriptor "(I)I" = some ⟨[.int], some .int⟩ := by decide +kernel
theorem pd5 : parseMethodDescriptor "()I" = some ⟨[], some .int⟩ := by decide +kernel
theorem pd6 : parseMethodDescriptor "(IIIIII)Z" = some ⟨[.int, .int, .int, .int, .int, .int], some .boolean⟩ := by decide +kernel
theorem d5_0 : decode prog_164_method_2_code 0 = .ok (.iload_n 1, 1) := by decide +kernel
theorem d5_1 : decode prog_164_method_2_code 1 = .ok (.istore_n 2, 1) := by decide +kernel
theorem d5_2 : decode prog_164_method_2_code 2 = .ok (.aload_n 0, 1) := by decide +kernel
theorem d5_3 : decode prog_164_method_2_code 3 = .ok (.getfield 7, 3) := by decide +kernel
theorem d5_6 : decode prog_164_method_2_code 6 = .ok (.iload_n 2, 1) := by decide +kernel
theorem d5_7 : decode prog_164_method_2_code 7 = .ok (.iaload, 1) := by decide +kernel
theorem d5_8 : decode prog_164_method_2_code 8 = .ok (.iload_n 2, 1) := by decide +kernel
theorem d5_9 : decode prog_164_method_2_code 9 = .ok (.if_icmp .eq 13, 3) := by decide +kernel
theorem d5_12 : decode prog_164_method_2_code 12 = .ok (.aload_n 0, 1) := by decide +kernel
theorem d5_13 : decode prog_164_method_2_code 13 = .ok (.getfield 7, 3) := by decide +kernel
theorem d5_16 : decode prog_164_method_2_code 16 = .ok (.iload_n 2, 1) := by decide +kernel
theorem d5_17 : decode prog_164_method_2_code 17 = .ok (.iaload, 1) := by decide +kernel
theorem d5_18 : decode prog_164_method_2_code 18 = .ok (.istore_n 2, 1) := by decide +kernel
theorem d5_19 : decode prog_164_method_2_code 19 = .ok (.goto (-17), 3) := by decide +kernel
theorem d5_22 : decode prog_164_method_2_code 22 = .ok (.iload_n 2, 1) := by decide +kernel
theorem d5_23 : decode prog_164_method_2_code 23 = .ok (.ireturn, 1) := by decide +kernel
theorem d4_0 : decode prog_164_method_3_code 0 = .ok (.aload_n 0, 1) := by decide +kernel
theorem d4_1 : decode prog_164_method_3_code 1 = .ok (.iload_n 1, 1) := by decide +kernel
theorem d4_2 : decode prog_164_method_3_code 2 = .ok (.invokevirtual 25, 3) := by decide +kernel
theorem d4_5 : decode prog_164_method_3_code 5 = .ok (.istore_n 3, 1) := by decide +kernel
theorem d4_6 : decode prog_164_method_3_code 6 = .ok (.aload_n 0, 1) := by decide +kernel
theorem d4_7 : decode prog_164_method_3_code 7 = .ok (.iload_n 2, 1) := by decide +kernel
theorem d4_8 : decode prog_164_method_3_code 8 = .ok (.invokevirtual 25, 3) := by decide +kernel
theorem d4_11 : decode prog_164_method_3_code 11 = .ok (.istore 4, 2) := by decide +kernel
theorem d4_13 : decode prog_164_method_3_code 13 = .ok (.iload_n 3, 1) := by decide +kernel
theorem d4_14 : decode prog_164_method_3_code 14 = .ok (.iload 4, 2) := by decide +kernel
theorem d4_16 : decode prog_164_method_3_code 16 = .ok (.if_icmp .ne 5, 3) := by decide +kernel
theorem d4_19 : decode prog_164_method_3_code 19 = .ok (.iconst 0, 1) := by decide +kernel
theorem d4_20 : decode prog_164_method_3_code 20 = .ok (.ireturn, 1) := by decide +kernel
theorem d4_21 : decode prog_164_method_3_code 21 = .ok (.aload_n 0, 1) := by decide +kernel
theorem d4_22 : decode prog_164_method_3_code 22 = .ok (.getfield 13, 3) := by decide +kernel
theorem d4_25 : decode prog_164_method_3_code 25 = .ok (.iload_n 3, 1) := by decide +kernel
theorem d4_26 : decode prog_164_method_3_code 26 = .ok (.iaload, 1) := by decide +kernel
theorem d4_27 : decode prog_164_method_3_code 27 = .ok (.aload_n 0, 1) := by decide +kernel
theorem d4_28 : decode prog_164_method_3_code 28 = .ok (.getfield 13, 3) := by decide +kernel
theorem d4_31 : decode prog_164_method_3_code 31 = .ok (.iload 4, 2) := by decide +kernel
theorem d4_33 : decode prog_164_method_3_code 33 = .ok (.iaload, 1) := by decide +kernel
theorem d4_34 : decode prog_164_method_3_code 34 = .ok (.if_icmp .le 13, 3) := by decide +kernel
theorem d4_37 : decode prog_164_method_3_code 37 = .ok (.iload_n 3, 1) := by decide +kernel
theorem d4_38 : decode prog_164_method_3_code 38 = .ok (.istore 5, 2) := by decide +kernel
theorem d4_40 : decode prog_164_method_3_code 40 = .ok (.iload 4, 2) := by decide +kernel
theorem d4_42 : decode prog_164_method_3_code 42 = .ok (.istore_n 3, 1) := by decide +kernel
theorem d4_43 : decode prog_164_method_3_code 43 = .ok (.iload 5, 2) := by decide +kernel
theorem d4_45 : decode prog_164_method_3_code 45 = .ok (.istore 4, 2) := by decide +kernel
theorem d4_47 : decode prog_164_method_3_code 47 = .ok (.aload_n 0, 1) := by decide +kernel
theorem d4_48 : decode prog_164_method_3_code 48 = .ok (.getfield 7, 3) := by decide +kernel
theorem d4_51 : decode prog_164_method_3_code 51 = .ok (.iload_n 3, 1) := by decide +kernel
theorem d4_52 : decode prog_164_method_3_code 52 = .ok (.iload 4, 2) := by decide +kernel
theorem d4_54 : decode prog_164_method_3_code 54 = .ok (.iastore, 1) := by decide +kernel
theorem d4_55 : decode prog_164_method_3_code 55 = .ok (.aload_n 0, 1) := by decide +kernel
theorem d4_56 : decode prog_164_method_3_code 56 = .ok (.getfield 13, 3) := by decide +kernel
theorem d4_59 : decode prog_164_method_3_code 59 = .ok (.iload 4, 2) := by decide +kernel
theorem d4_61 : decode prog_164_method_3_code 61 = .ok (.dup2, 1) := by decide +kernel
theorem d4_62 : decode prog_164_method_3_code 62 = .ok (.iaload, 1) := by decide +kernel
theorem d4_63 : decode prog_164_method_3_code 63 = .ok (.aload_n 0, 1) := by decide +kernel
theorem d4_64 : decode prog_164_method_3_code 64 = .ok (.getfield 13, 3) := by decide +kernel
theorem d4_67 : decode prog_164_method_3_code 67 = .ok (.iload_n 3, 1) := by decide +kernel
theorem d4_68 : decode prog_164_method_3_code 68 = .ok (.iaload, 1) := by decide +kernel
theorem d4_69 : decode prog_164_method_3_code 69 = .ok (.iadd, 1) := by decide +kernel
theorem d4_70 : decode prog_164_method_3_code 70 = .ok (.iastore, 1) := by decide +kernel
theorem d4_71 : decode prog_164_method_3_code 71 = .ok (.aload_n 0, 1) := by decide +kernel
theorem d4_72 : decode prog_164_method_3_code 72 = .ok (.getfield 22, 3) := by decide +kernel
theorem d4_75 : decode prog_164_method_3_code 75 = .ok (.aload_n 0, 1) := by decide +kernel
theorem d4_76 : decode prog_164_method_3_code 76 = .ok (.dup, 1) := by decide +kernel
theorem d4_77 : decode prog_164_method_3_code 77 = .ok (.getfield 29, 3) := by decide +kernel
theorem d4_80 : decode prog_164_method_3_code 80 = .ok (.dup_x1, 1) := by decide +kernel
theorem d4_81 : decode prog_164_method_3_code 81 = .ok (.iconst 1, 1) := by decide +kernel
theorem d4_82 : decode prog_164_method_3_code 82 = .ok (.iadd, 1) := by decide +kernel
theorem d4_83 : decode prog_164_method_3_code 83 = .ok (.putfield 29, 3) := by decide +kernel
theorem d4_86 : decode prog_164_method_3_code 86 = .ok (.iload_n 3, 1) := by decide +kernel
theorem d4_87 : decode prog_164_method_3_code 87 = .ok (.iastore, 1) := by decide +kernel
theorem d4_88 : decode prog_164_method_3_code 88 = .ok (.iconst 1, 1) := by decide +kernel
theorem d4_89 : decode prog_164_method_3_code 89 = .ok (.ireturn, 1) := by decide +kernel
theorem d6_0 : decode prog_164_method_4_code 0 = .ok (.aload_n 0, 1) := by decide +kernel
theorem d6_1 : decode prog_164_method_4_code 1 = .ok (.getfield 22, 3) := by decide +kernel
theorem d6_4 : decode prog_164_method_4_code 4 = .ok (.aload_n 0, 1) := by decide +kernel
theorem d6_5 : decode prog_164_method_4_code 5 = .ok (.dup, 1) := by decide +kernel
theorem d6_6 : decode prog_164_method_4_code 6 = .ok (.getfield 29, 3) := by decide +kernel
theorem d6_9 : decode prog_164_method_4_code 9 = .ok (.iconst 1, 1) := by decide +kernel
theorem d6_10 : decode prog_164_method_4_code 10 = .ok (.isub, 1) := by decide +kernel
theorem d6_11 : decode prog_164_method_4_code 11 = .ok (.dup_x1, 1) := by decide +kernel
theorem d6_12 : decode prog_164_method_4_code 12 = .ok (.putfield 29, 3) := by decide +kernel
theorem d6_15 : decode prog_164_method_4_code 15 = .ok (.iaload, 1) := by decide +kernel
theorem d6_16 : decode prog_164_method_4_code 16 = .ok (.istore_n 1, 1) := by decide +kernel
theorem d6_17 : decode prog_164_method_4_code 17 = .ok (.aload_n 0, 1) := by decide +kernel
theorem d6_18 : decode prog_164_method_4_code 18 = .ok (.getfield 13, 3) := by decide +kernel
theorem d6_21 : decode prog_164_method_4_code 21 = .ok (.aload_n 0, 1) := by decide +kernel
theorem d6_22 : decode prog_164_method_4_code 22 = .ok (.getfield 7, 3) := by decide +kernel
theorem d6_25 : decode prog_164_method_4_code 25 = .ok (.iload_n 1, 1) := by decide +kernel
theorem d6_26 : decode prog_164_method_4_code 26 = .ok (.iaload, 1) := by decide +kernel
theorem d6_27 : decode prog_164_method_4_code 27 = .ok (.dup2, 1) := by decide +kernel
theorem d6_28 : decode prog_164_method_4_code 28 = .ok (.iaload, 1) := by decide +kernel
theorem d6_29 : decode prog_164_method_4_code 29 = .ok (.aload_n 0, 1) := by decide +kernel
theorem d6_30 : decode prog_164_method_4_code 30 = .ok (.getfield 13, 3) := by decide +kernel
theorem d6_33 : decode prog_164_method_4_code 33 = .ok (.iload_n 1, 1) := by decide +kernel
theorem d6_34 : decode prog_164_method_4_code 34 = .ok (.iaload, 1) := by decide +kernel
theorem d6_35 : decode prog_164_method_4_code 35 = .ok (.isub, 1) := by decide +kernel
theorem d6_36 : decode prog_164_method_4_code 36 = .ok (.iastore, 1) := by decide +kernel
theorem d6_37 : decode prog_164_method_4_code 37 = .ok (.aload_n 0, 1) := by decide +kernel
theorem d6_38 : decode prog_164_method_4_code 38 = .ok (.getfield 7, 3) := by decide +kernel
theorem d6_41 : decode prog_164_method_4_code 41 = .ok (.iload_n 1, 1) := by decide +kernel
theorem d6_42 : decode prog_164_method_4_code 42 = .ok (.iload_n 1, 1) := by decide +kernel
theorem d6_43 : decode prog_164_method_4_code 43 = .ok (.iastore, 1) := by decide +kernel
theorem d6_44 : decode prog_164_method_4_code 44 = .ok (.return_, 1) := by decide +kernel
theorem d7_0 : decode prog_164_method_5_code 0 = .ok (.aload_n 0, 1) := by decide +kernel
theorem d7_1 : decode prog_164_method_5_code 1 = .ok (.getfield 7, 3) := by decide +kernel
theorem d7_4 : decode prog_164_method_5_code 4 = .ok (.arraylength, 1) := by decide +kernel
theorem d7_5 : decode prog_164_method_5_code 5 = .ok (.aload_n 0, 1) := by decide +kernel
theorem d7_6 : decode prog_164_method_5_code 6 = .ok (.getfield 29, 3) := by decide +kernel
theorem d7_9 : decode prog_164_method_5_code 9 = .ok (.isub, 1) := by decide +kernel
theorem d7_10 : decode prog_164_method_5_code 10 = .ok (.ireturn, 1) := by decide +kernel
theorem d1_0 : decode prog_164_method_1_code 0 = .ok (.aload_n 0, 1) := by decide +kernel
theorem d1_1 : decode prog_164_method_1_code 1 = .ok (.invokespecial 1, 3) := by decide +kernel
theorem d1_4 : decode prog_164_method_1_code 4 = .ok (.aload_n 0, 1) := by decide +kernel
theorem d1_5 : decode prog_164_method_1_code 5 = .ok (.iload_n 1, 1) := by decide +kernel
theorem d1_6 : decode prog_164_method_1_code 6 = .ok (.newarray .int, 2) := by decide +kernel
theorem d1_8 : decode prog_164_method_1_code 8 = .ok (.putfield 7, 3) := by decide +kernel
theorem d1_11 : decode prog_164_method_1_code 11 = .ok (.aload_n 0, 1) := by decide +kernel
theorem d1_12 : decode prog_164_method_1_code 12 = .ok (.iload_n 1, 1) := by decide +kernel
theorem d1_13 : decode prog_164_method_1_code 13 = .ok (.newarray .int, 2) := by decide +kernel
theorem d1_15 : decode prog_164_method_1_code 15 = .ok (.putfield 13, 3) := by decide +kernel
theorem d1_18 : decode prog_164_method_1_code 18 = .ok (.aload_n 0, 1) := by decide +kernel
theorem d1_19 : decode prog_164_method_1_code 19 = .ok (.iconst 0, 1) := by decide +kernel
theorem d1_20 : decode prog_164_method_1_code 20 = .ok (.iload_n 1, 1) := by decide +kernel
theorem d1_21 : decode prog_164_method_1_code 21 = .ok (.iconst 1, 1) := by decide +kernel
theorem d1_22 : decode prog_164_method_1_code 22 = .ok (.isub, 1) := by decide +kernel
theorem d1_23 : decode prog_164_method_1_code 23 = .ok (.invokestatic 16, 3) := by decide +kernel
theorem d1_26 : decode prog_164_method_1_code 26 = .ok (.newarray .int, 2) := by decide +kernel
theorem d1_28 : decode prog_164_method_1_code 28 = .ok (.putfield 22, 3) := by decide +kernel
theorem d1_31 : decode prog_164_method_1_code 31 = .ok (.iconst 0, 1) := by decide +kernel
theorem d1_32 : decode prog_164_method_1_code 32 = .ok (.istore_n 2, 1) := by decide +kernel
theorem d1_33 : decode prog_164_method_1_code 33 = .ok (.iload_n 2, 1) := by decide +kernel
theorem d1_34 : decode prog_164_method_1_code 34 = .ok (.iload_n 1, 1) := by decide +kernel
theorem d1_35 : decode prog_164_method_1_code 35 = .ok (.if_icmp .ge 23, 3) := by decide +kernel
theorem d1_38 : decode prog_164_method_1_code 38 = .ok (.aload_n 0, 1) := by decide +kernel
theorem d1_39 : decode prog_164_method_1_code 39 = .ok (.getfield 7, 3) := by decide +kernel
theorem d1_42 : decode prog_164_method_1_code 42 = .ok (.iload_n 2, 1) := by decide +kernel
theorem d1_43 : decode prog_164_method_1_code 43 = .ok (.iload_n 2, 1) := by decide +kernel
theorem d1_44 : decode prog_164_method_1_code 44 = .ok (.iastore, 1) := by decide +kernel
theorem d1_45 : decode prog_164_method_1_code 45 = .ok (.aload_n 0, 1) := by decide +kernel
theorem d1_46 : decode prog_164_method_1_code 46 = .ok (.getfield 13, 3) := by decide +kernel
theorem d1_49 : decode prog_164_method_1_code 49 = .ok (.iload_n 2, 1) := by decide +kernel
theorem d1_50 : decode prog_164_method_1_code 50 = .ok (.iconst 1, 1) := by decide +kernel
theorem d1_51 : decode prog_164_method_1_code 51 = .ok (.iastore, 1) := by decide +kernel
theorem d1_52 : decode prog_164_method_1_code 52 = .ok (.iinc 2 1, 3) := by decide +kernel
theorem d1_55 : decode prog_164_method_1_code 55 = .ok (.goto (-22), 3) := by decide +kernel
theorem d1_58 : decode prog_164_method_1_code 58 = .ok (.return_, 1) := by decide +kernel
theorem d3_0 : decode jdk_29_method_65_code 0 = .ok (.iload_n 0, 1) := by decide +kernel
theorem d3_1 : decode jdk_29_method_65_code 1 = .ok (.iload_n 1, 1) := by decide +kernel
theorem d3_2 : decode jdk_29_method_65_code 2 = .ok (.if_icmp .lt 7, 3) := by decide +kernel
theorem d3_5 : decode jdk_29_method_65_code 5 = .ok (.iload_n 0, 1) := by decide +kernel
theorem d3_6 : decode jdk_29_method_65_code 6 = .ok (.goto 4, 3) := by decide +kernel
theorem d3_9 : decode jdk_29_method_65_code 9 = .ok (.iload_n 1, 1) := by decide +kernel
theorem d3_10 : decode jdk_29_method_65_code 10 = .ok (.ireturn, 1) := by decide +kernel
/-! ## UnionFind, plain -/
abbrev UFS : Type := List Nat × List Nat × List Nat × Nat
def findF (par : List Nat) : Nat → Nat → Option Nat
  | 0, _ => none
  | f + 1, r => match par[r]? with
    | none => none
    | some p => if p = r then some r else findF par f p
def hangF (u : UFS) (s l zs zl : Nat) : UFS := (u.1.set s l, u.2.1.set l (zl + zs), u.2.2.1.set u.2.2.2 s, u.2.2.2 + 1)
def unionF (u : UFS) (a b : Nat) : Option (Nat × UFS) :=
  match findF u.1 8 a with
  | none => none
  | some s => match findF u.1 8 b with
    | none => none
    | some l => if s = l then some (0, u) else match u.2.1[s]? with
      | none => none
      | some zs => match u.2.1[l]? with
        | none => none
        | some zl => if zs < 100 ∧ zl < 100 ∧ u.2.2.2 < u.2.2.1.length then (if zl < zs then some (1, hangF u l s zl zs) else some (1, hangF u s l zs zl)) else none
def undoF (u : UFS) : Option UFS :=
  if 0 < u.2.2.2 then match u.2.2.1[u.2.2.2 - 1]? with
    | none => none
    | some r => match u.1[r]? with
      | none => none
      | some p => match u.2.1[p]? with
        | none => none
        | some zp => match u.2.1[r]? with
          | none => none
          | some zr => if zr ≤ zp ∧ zp < 100 ∧ u.2.2.2 < 100 then some (u.1.set r r, u.2.1.set p (zp - zr), u.2.2.1, u.2.2.2 - 1) else none
  else none
theorem findF_self {par : List Nat} : ∀ {f r y : Nat}, findF par f r = some y → par[y]? = some y
  | 0, r, y, h => by cases h
  | f + 1, r, y, h => by
    unfold findF at h
    cases hp : par[r]? with
    | none => rw [hp] at h; cases h
    | some p =>
      rw [hp] at h
      dsimp only at h
      by_cases e : p = r
      · rw [if_pos e] at h; cases h; rw [hp, e]
      · rw [if_neg e] at h; exact findF_self h
theorem findF_lt {par : List Nat} {f r y : Nat} (h : findF par f r = some y) : r < par.length := by
  cases f with
  | zero => cases h
  | succ f =>
    unfold findF at h
    cases hp : par[r]? with
    | none => rw [hp] at h; cases h
    | some p => exact (List.getElem?_eq_some_iff.mp hp).1
theorem i_inj {a b : Nat} (ha : a < 2 ^ 31) (hb : b < 2 ^ 31) (h : Int32.ofNat a = Int32.ofNat b) : a = b := by
  have q := congrArg Int32.toInt h
  rw [nat_i ha, nat_i hb] at q; omega
abbrev R0 : Room := { frames := 0, cells := 0, slots := 0, locals := 0 }
abbrev RU : Room := { frames := 1, cells := 0, slots := 0, locals := 14 }
abbrev RI : Room := { frames := 1, cells := 3, slots := 11, locals := 14 }
def Uf (Z : State) (h : Heap) (a pa sa ha : Nat) (u : UFS) : Prop := Exa Z h a "com/example/joinweave/joinweave/graph/UnionFind" ∧ Fld Z h a "com/example/joinweave/joinweave/graph/UnionFind" "parent" "[I" (.ref pa) ∧ Fld Z h a "com/example/joinweave/joinweave/graph/UnionFind" "size" "[I" (.ref sa) ∧ Fld Z h a "com/example/joinweave/joinweave/graph/UnionFind" "hung" "[I" (.ref ha) ∧ Fld Z h a "com/example/joinweave/joinweave/graph/UnionFind" "unions" "I" (.int (Int32.ofNat u.2.2.2)) ∧ An Z h pa .int u.1 ∧ An Z h sa .int u.2.1 ∧ An Z h ha .int u.2.2.1 ∧ pa ≠ sa ∧ pa ≠ ha ∧ sa ≠ ha ∧ a ≠ pa ∧ a ≠ sa ∧ a ≠ ha
theorem Uf.ext {Z : State} {h h' : Heap} {a pa sa ha : Nat} {u : UFS} (F : Uf Z h a pa sa ha u) (x : Ext h h') : Uf Z h' a pa sa ha u := by
  obtain ⟨f1, f2, f3, f4, f5, f6, f7, f8, r⟩ := F
  exact ⟨f1.ext x, f2.ext x, f3.ext x, f4.ext x, f5.ext x, Ai.ext f6 x, Ai.ext f7 x, Ai.ext f8 x, r⟩
theorem Uf.keep {Z : State} {h h' : Heap} {a pa sa ha : Nat} {u : UFS} {ws : List Nat} (F : Uf Z h a pa sa ha u) (K : Keep h h' ws) (q1 : a ∉ ws) (q2 : pa ∉ ws) (q3 : sa ∉ ws) (q4 : ha ∉ ws) : Uf Z h' a pa sa ha u := by
  obtain ⟨f1, f2, f3, f4, f5, f6, f7, f8, r⟩ := F
  exact ⟨f1.keep K, f2.keep K q1, f3.keep K q1, f4.keep K q1, f5.keep K q1, Ai.keep f6 K q2, Ai.keep f7 K q3, Ai.keep f8 K q4, r⟩
theorem Uf.other {Z : State} {h h' : Heap} {a pa sa ha : Nat} {u : UFS} {b : Nat} {sl : Nat} {v : Value} (F : Uf Z h a pa sa ha u) (W : Wr h h' b sl v) (q1 : a ≠ b) (q2 : pa ≠ b) (q3 : sa ≠ b) (q4 : ha ≠ b) : Uf Z h' a pa sa ha u := F.keep (Keep.of_wr W) (ninS q1 nin0) (ninS q2 nin0) (ninS q3 nin0) (ninS q4 nin0)
theorem Uf.lt {Z : State} {h : Heap} {a pa sa ha : Nat} {u : UFS} (F : Uf Z h a pa sa ha u) : a < h.size ∧ pa < h.size ∧ sa < h.size ∧ ha < h.size := ⟨exa_lt F.1, Ai.lt F.2.2.2.2.2.1, Ai.lt F.2.2.2.2.2.2.1, Ai.lt F.2.2.2.2.2.2.2.1⟩
theorem Uf.wP {Z : State} {h h' : Heap} {a pa sa ha : Nat} {p s g : List Nat} {n i v : Nat} (F : Uf Z h a pa sa ha (p, s, g, n)) (W : Wr h h' pa i (.int (Int32.ofNat v))) : Uf Z h' a pa sa ha (p.set i v, s, g, n) := by
  obtain ⟨f1, f2, f3, f4, f5, f6, f7, f8, d1, d2, d3, d4, d5, d6⟩ := F
  exact ⟨f1.wr W, f2.other W (Or.inl d4), f3.other W (Or.inl d4), f4.other W (Or.inl d4), f5.other W (Or.inl d4), An.setW f6 W, Ai.other f7 W (Ne.symm d1), Ai.other f8 W (Ne.symm d2), d1, d2, d3, d4, d5, d6⟩
theorem Uf.wS {Z : State} {h h' : Heap} {a pa sa ha : Nat} {p s g : List Nat} {n i v : Nat} (F : Uf Z h a pa sa ha (p, s, g, n)) (W : Wr h h' sa i (.int (Int32.ofNat v))) : Uf Z h' a pa sa ha (p, s.set i v, g, n) := by
  obtain ⟨f1, f2, f3, f4, f5, f6, f7, f8, d1, d2, d3, d4, d5, d6⟩ := F
  exact ⟨f1.wr W, f2.other W (Or.inl d5), f3.other W (Or.inl d5), f4.other W (Or.inl d5), f5.other W (Or.inl d5), Ai.other f6 W d1, An.setW f7 W, Ai.other f8 W (Ne.symm d3), d1, d2, d3, d4, d5, d6⟩
theorem Uf.wG {Z : State} {h h' : Heap} {a pa sa ha : Nat} {p s g : List Nat} {n i v : Nat} (F : Uf Z h a pa sa ha (p, s, g, n)) (W : Wr h h' ha i (.int (Int32.ofNat v))) : Uf Z h' a pa sa ha (p, s, g.set i v, n) := by
  obtain ⟨f1, f2, f3, f4, f5, f6, f7, f8, d1, d2, d3, d4, d5, d6⟩ := F
  exact ⟨f1.wr W, f2.other W (Or.inl d6), f3.other W (Or.inl d6), f4.other W (Or.inl d6), f5.other W (Or.inl d6), Ai.other f6 W d2, Ai.other f7 W d3, An.setW f8 W, d1, d2, d3, d4, d5, d6⟩
theorem Uf.wN {Z : State} {a0 : Array Value} (hw : ∀ d ∈ tables_1, d.before a0 Z = true) {h h' : Heap} {a pa sa ha : Nat} {p s g : List Nat} {n m : Nat} (F : Uf Z h a pa sa ha (p, s, g, n)) (W : Wr h h' a (Jvm.RoadKit.slotOf Z "com/example/joinweave/joinweave/graph/UnionFind" "unions" "I") (.int (Int32.ofNat m))) : Uf Z h' a pa sa ha (p, s, g, m) := by
  obtain ⟨f1, f2, f3, f4, f5, f6, f7, f8, d1, d2, d3, d4, d5, d6⟩ := F
  exact ⟨f1.wr W, f2.other W (Or.inr (slot_ne (Or.inr (own_w hw (i := 12) rfl)) (Or.inl (own_w hw (i := 32) rfl)) (by decide) (t := (.array .int)) (t' := .int) (by decide) (by decide))), f3.other W (Or.inr (slot_ne (Or.inr (own_w hw (i := 14) rfl)) (Or.inl (own_w hw (i := 32) rfl)) (by decide) (t := (.array .int)) (t' := .int) (by decide) (by decide))), f4.other W (Or.inr (slot_ne (Or.inr (own_w hw (i := 20) rfl)) (Or.inl (own_w hw (i := 32) rfl)) (by decide) (t := (.array .int)) (t' := .int) (by decide) (by decide))), f5.same W, Ai.other f6 W (Ne.symm d4), Ai.other f7 W (Ne.symm d5), Ai.other f8 W (Ne.symm d6), d1, d2, d3, d4, d5, d6⟩
def Qi (y : Nat) (h0 : Heap) (v : Option Value) (h : Heap) : Prop := v = some (.int (Int32.ofNat y)) ∧ h0 = h
def QU (Z : State) (h0 : Heap) (a pa sa ha : Nat) (r : Nat) (u : UFS) (v : Option Value) (h : Heap) : Prop := v = some (.int (Int32.ofNat r)) ∧ Keep h0 h [a, pa, sa, ha] ∧ Uf Z h a pa sa ha u
def QD (Z : State) (h0 : Heap) (a pa sa ha : Nat) (u : UFS) (v : Option Value) (h : Heap) : Prop := v = none ∧ Keep h0 h [a, pa, sa, ha] ∧ Uf Z h a pa sa ha u
set_option maxRecDepth 65536 in
set_option maxHeartbeats 4000000 in
theorem loopF (Z : State) (a0 : Array Value) (hw : ∀ d ∈ tables_1, d.before a0 Z = true) (E : Noise) (C : Cx E Z "com/example/joinweave/joinweave/graph/UnionFind" "find" prog_164_method_2_code 3 (some .int)) (a pa : Nat) (par : List Nat) (y : Nat) (h0 : Heap) (n0 : Nat) (F : Fld Z h0 a "com/example/joinweave/joinweave/graph/UnionFind" "parent" "[I" (.ref pa)) (A : An Z h0 pa .int par) : ∀ (fuel r : Nat) (e : Int32), findF par fuel r = some y → Go E R0 n0 (Qi y h0) h0 0 0 2 #[.val (.ref a), .val (.int e), .val (.int (Int32.ofNat r))] [] := by
  intro fuel
  induction fuel with
  | zero => intro r e h; cases h
  | succ f ih =>
    intro r e hr
    have hlt := findF_lt hr
    have hsm := An.small A
    unfold findF at hr
    cases hp : par[r]? with
    | none => rw [hp] at hr; cases hr
    | some p =>
      rw [hp] at hr
      dsimp only at hr
      by_cases e1 : p = r
      · rw [if_pos e1] at hr
        obtain rfl : r = y := Option.some.inj hr
        refine go_aloadN C (pc' := 3) d5_2 rfl rfl rfl ?_
        refine go_getF C (pc' := 6) (own_w hw (i := 11) rfl) F d5_3 rfl ?_
        refine go_iloadN C (pc' := 7) d5_6 rfl rfl ?_
        refine go_nload C (pc' := 8) A hp d5_7 rfl ?_
        refine go_iloadN C (pc' := 9) d5_8 rfl rfl ?_
        refine go_icY C (pc' := 22) d5_9 (teq (by rw [e1])).1 (by decide) (by decide) ?_
        refine go_iloadN C (pc' := 23) d5_22 rfl rfl ?_
        refine go_retI C d5_23 (by decide) (by decide) ?_
        exact ⟨rfl, rfl⟩
      · rw [if_neg e1] at hr
        refine go_aloadN C (pc' := 3) d5_2 rfl rfl rfl ?_
        refine go_getF C (pc' := 6) (own_w hw (i := 11) rfl) F d5_3 rfl ?_
        refine go_iloadN C (pc' := 7) d5_6 rfl rfl ?_
        refine go_nload C (pc' := 8) A hp d5_7 rfl ?_
        refine go_iloadN C (pc' := 9) d5_8 rfl rfl ?_
        refine go_icN C (pc' := 12) d5_9 (feq (fun q => e1 (i_inj (Nat.lt_trans (findF_lt hr) hsm) (Nat.lt_trans hlt hsm) q))).1 rfl ?_
        refine go_aloadN C (pc' := 13) d5_12 rfl rfl rfl ?_
        refine go_getF C (pc' := 16) (own_w hw (i := 11) rfl) F d5_13 rfl ?_
        refine go_iloadN C (pc' := 17) d5_16 rfl rfl ?_
        refine go_nload C (pc' := 18) A hp d5_17 rfl ?_
        refine go_istoreN C (pc' := 19) (Ls' := #[.val (.ref a), .val (.int e), .val (.int (Int32.ofNat p))]) d5_18 rfl rfl ?_
        refine go_goto C (pc' := 2) d5_19 (by decide) (by decide) ?_
        exact ih p e hr
set_option maxRecDepth 65536 in
set_option maxHeartbeats 4000000 in
theorem rmFind (Z : State) (a0 : Array Value) (hw : ∀ d ∈ tables_1, d.before a0 Z = true) (a pa sa ha : Nat) (u : UFS) (r y : Nat) (h0 : Heap) (n0 : Nat) (hU : Uf Z h0 a pa sa ha u) (hr : findF u.1 8 r = some y) : Met Z (⟨"com/example/joinweave/joinweave/graph/UnionFind", "find", "(I)I"⟩ : MethodName) prog_164_method_2_code 3 (some .int) R0 #[.ref a, .int (Int32.ofNat r)] h0 n0 (Qi y h0) := by
  refine met_of (Ls := #[.val (.ref a), .val (.int (Int32.ofNat r)), .unset]) (plainFor_of_name pn0) (fun m => by first | (simp [entryFrame, mkF, argsToLocals, Value.category]; done) | rfl) ?_
  intro E (C : Cx E Z "com/example/joinweave/joinweave/graph/UnionFind" "find" prog_164_method_2_code 3 (some .int))
  refine go_iloadN C (pc' := 1) d5_0 rfl rfl ?_
  refine go_istoreN C (pc' := 2) (Ls' := #[.val (.ref a), .val (.int (Int32.ofNat r)), .val (.int (Int32.ofNat r))]) d5_1 rfl rfl ?_
  exact loopF Z a0 hw E C a pa u.1 y h0 n0 hU.2.1 hU.2.2.2.2.2.1 8 r _ hr
theorem i_sub {a b : Nat} (h : b ≤ a) : Int32.ofNat a - Int32.ofNat b = Int32.ofNat (a - b) := by
  have q : Int32.ofNat a = Int32.ofNat (a - b) + Int32.ofNat b := by rw [← Int32.ofNat_add, Nat.sub_add_cancel h]
  rw [q, Int32.add_sub_cancel]
theorem i_add (a b : Nat) : Int32.ofNat a + Int32.ofNat b = Int32.ofNat (a + b) := (Int32.ofNat_add ..).symm
set_option maxRecDepth 65536 in
set_option maxHeartbeats 4000000 in
theorem rmSets (Z : State) (a0 : Array Value) (hw : ∀ d ∈ tables_1, d.before a0 Z = true) (a pa sa ha : Nat) (u : UFS) (h0 : Heap) (n0 : Nat) (hU : Uf Z h0 a pa sa ha u) (hle : u.2.2.2 ≤ u.1.length) : Met Z (⟨"com/example/joinweave/joinweave/graph/UnionFind", "sets", "()I"⟩ : MethodName) prog_164_method_5_code 1 (some .int) R0 #[.ref a] h0 n0 (Qi (u.1.length - u.2.2.2) h0) := by
  refine met_of (Ls := #[.val (.ref a)]) (plainFor_of_name pn0) (fun m => by first | (simp [entryFrame, mkF, argsToLocals, Value.category]; done) | rfl) ?_
  intro E (C : Cx E Z "com/example/joinweave/joinweave/graph/UnionFind" "sets" prog_164_method_5_code 1 (some .int))
  refine go_aloadN C (pc' := 1) d7_0 rfl rfl rfl ?_
  refine go_getF C (pc' := 4) (own_w hw (i := 11) rfl) hU.2.1 d7_1 rfl ?_
  refine go_nalen C (pc' := 5) hU.2.2.2.2.2.1 d7_4 rfl ?_
  refine go_aloadN C (pc' := 6) d7_5 rfl rfl rfl ?_
  refine go_getF C (pc' := 9) (own_w hw (i := 31) rfl) hU.2.2.2.2.1 d7_6 rfl ?_
  refine go_isub C (pc' := 10) d7_9 rfl ?_
  refine go_retI C d7_10 (by decide) (by decide) ?_
  exact ⟨by rw [i_sub hle], rfl⟩
set_option maxRecDepth 65536 in
set_option maxHeartbeats 4000000 in
theorem hang (Z : State) (a0 : Array Value) (hw : ∀ d ∈ tables_1, d.before a0 Z = true) (E : Noise) (C : Cx E Z "com/example/joinweave/joinweave/graph/UnionFind" "union" prog_164_method_3_code 6 (some .boolean)) (a pa sa ha : Nat) (p z g : List Nat) (n s l zs zl : Nat) (x y : Int32) (X : Slot) (h0 : Heap) (n0 : Nat) (ge : n0 ≤ a ∧ n0 ≤ pa ∧ n0 ≤ sa ∧ n0 ≤ ha) (U0 : Uf Z h0 a pa sa ha (p, z, g, n)) (K0 : Keep h0 h0 [a, pa, sa, ha]) (hs : s < p.length) (hzs : z[s]? = some zs) (hzl : z[l]? = some zl) (hn : n < g.length) : Go E RU n0 (QU Z h0 a pa sa ha 1 (hangF (p, z, g, n) s l zs zl)) h0 0 0 47 #[.val (.ref a), .val (.int x), .val (.int y), .val (.int (Int32.ofNat s)), .val (.int (Int32.ofNat l)), X] [] := by
  refine go_aloadN C (pc' := 48) d4_47 rfl rfl rfl ?_
  refine go_getF C (pc' := 51) (own_w hw (i := 11) rfl) U0.2.1 d4_48 rfl ?_
  refine go_iloadN C (pc' := 52) d4_51 rfl rfl ?_
  refine go_iload C (pc' := 54) d4_52 rfl rfl ?_
  refine go_nstore C (pc' := 55) U0.2.2.2.2.2.1 hs ge.2.1 d4_54 rfl ?_
  intro h1 W1
  have U1 := U0.wP W1
  have K1 := K0.wr W1 (Or.inl (List.mem_of_getElem? (i := 1) rfl))
  refine go_aloadN C (pc' := 56) d4_55 rfl rfl rfl ?_
  refine go_getF C (pc' := 59) (own_w hw (i := 13) rfl) U1.2.2.1 d4_56 rfl ?_
  refine go_iload C (pc' := 61) d4_59 rfl rfl ?_
  refine go_dup2 C (pc' := 62) d4_61 rfl rfl rfl ?_
  refine go_nload C (pc' := 63) U1.2.2.2.2.2.2.1 hzl d4_62 rfl ?_
  refine go_aloadN C (pc' := 64) d4_63 rfl rfl rfl ?_
  refine go_getF C (pc' := 67) (own_w hw (i := 13) rfl) U1.2.2.1 d4_64 rfl ?_
  refine go_iloadN C (pc' := 68) d4_67 rfl rfl ?_
  refine go_nload C (pc' := 69) U1.2.2.2.2.2.2.1 hzs d4_68 rfl ?_
  refine go_iadd C (pc' := 70) d4_69 rfl ?_
  rw [i_add zl zs]
  refine go_nstore C (pc' := 71) U1.2.2.2.2.2.2.1 (List.getElem?_eq_some_iff.mp hzl).1 ge.2.2.1 d4_70 rfl ?_
  intro h2 W2
  have U2 := U1.wS W2
  have K2 := K1.wr W2 (Or.inl (List.mem_of_getElem? (i := 2) rfl))
  refine go_aloadN C (pc' := 72) d4_71 rfl rfl rfl ?_
  refine go_getF C (pc' := 75) (own_w hw (i := 19) rfl) U2.2.2.2.1 d4_72 rfl ?_
  refine go_aloadN C (pc' := 76) d4_75 rfl rfl rfl ?_
  refine go_dup C (pc' := 77) d4_76 rfl rfl ?_
  refine go_getF C (pc' := 80) (own_w hw (i := 31) rfl) U2.2.2.2.2.1 d4_77 rfl ?_
  refine go_dupX1 C (pc' := 81) d4_80 rfl rfl rfl ?_
  refine go_iconst C (pc' := 82) (z := 1) d4_81 rfl rfl ?_
  refine go_iadd C (pc' := 83) d4_82 rfl ?_
  rw [show Int32.ofNat n + (1 : Int32) = Int32.ofNat (n + 1) from i_add n 1]
  refine go_putF C (pc' := 86) (ty := .int) (own_w hw (i := 31) rfl) U2.2.2.2.2.1 U2.1 (Or.inl (own_w hw (i := 32) rfl)) (own_w hw (i := 2) rfl) (by decide) rfl rfl ge.1 d4_83 rfl ?_
  intro h3 W3
  have U3 := U2.wN hw W3
  have K3 := K2.wr W3 (Or.inl (List.mem_of_getElem? (i := 0) rfl))
  refine go_iloadN C (pc' := 87) d4_86 rfl rfl ?_
  refine go_nstore C (pc' := 88) U3.2.2.2.2.2.2.2.1 hn ge.2.2.2 d4_87 rfl ?_
  intro h4 W4
  have U4 := U3.wG W4
  have K4 := K3.wr W4 (Or.inl (List.mem_of_getElem? (i := 3) rfl))
  refine go_iconst C (pc' := 89) (z := 1) d4_88 rfl rfl ?_
  refine go_retZ C d4_89 (by decide) (by decide) (by decide) ?_
  exact ⟨rfl, K4, U4⟩
set_option maxRecDepth 65536 in
set_option maxHeartbeats 4000000 in
theorem rmU (Z : State) (a0 : Array Value) (hw : ∀ d ∈ tables_1, d.before a0 Z = true) (a pa sa ha : Nat) (u u' : UFS) (x y r : Nat) (h0 : Heap) (n0 : Nat) (ge : n0 ≤ a ∧ n0 ≤ pa ∧ n0 ≤ sa ∧ n0 ≤ ha) (hU : Uf Z h0 a pa sa ha u) (hr : unionF u x y = some (r, u')) : Met Z (⟨"com/example/joinweave/joinweave/graph/UnionFind", "union", "(II)Z"⟩ : MethodName) prog_164_method_3_code 6 (some .boolean) RU #[.ref a, .int (Int32.ofNat x), .int (Int32.ofNat y)] h0 n0 (QU Z h0 a pa sa ha r u') := by
  refine met_of (Ls := #[.val (.ref a), .val (.int (Int32.ofNat x)), .val (.int (Int32.ofNat y)), .unset, .unset, .unset]) (plainFor_of_name pn0) (fun m => by first | (simp [entryFrame, mkF, argsToLocals, Value.category]; done) | rfl) ?_
  intro E (C : Cx E Z "com/example/joinweave/joinweave/graph/UnionFind" "union" prog_164_method_3_code 6 (some .boolean))
  unfold unionF at hr
  cases hs : findF u.1 8 x with
  | none => rw [hs] at hr; cases hr
  | some s =>
    rw [hs] at hr
    dsimp only at hr
    cases hl : findF u.1 8 y with
    | none => rw [hl] at hr; cases hr
    | some l =>
      rw [hl] at hr
      dsimp only at hr
      have hsl := (List.getElem?_eq_some_iff.mp (findF_self hs)).1
      have hll := (List.getElem?_eq_some_iff.mp (findF_self hl)).1
      have hsm := An.small hU.2.2.2.2.2.1
      refine go_aloadN C (pc' := 1) d4_0 rfl rfl rfl ?_
      refine go_iloadN C (pc' := 2) d4_1 rfl rfl ?_
      refine go_callV C (pc' := 5) (k' := 0) (n' := 0) (argsL := [(.int (Int32.ofNat x))]) (rest := []) (own_w hw (i := 26) rfl) (own_w hw (i := 27) rfl) (own_w hw (i := 29) rfl) (own_w hw (i := 28) rfl) (own_w hw (i := 3) rfl) (own_w hw (i := 30) rfl) (hU.1) (rmFind Z a0 hw a pa sa ha u x s h0 n0 hU hs) d4_2 rfl rfl (lenOf pd4 rfl) (by decide) (by decide) 0 rfl (by decide) rfl rfl (by decide) (by decide) rfl ?_
      rintro _ _ ⟨rfl, rfl⟩
      show Go E RU n0 (QU Z h0 a pa sa ha r u') h0 0 0 5 #[.val (.ref a), .val (.int (Int32.ofNat x)), .val (.int (Int32.ofNat y)), .unset, .unset, .unset] [(.int (Int32.ofNat s))]
      refine go_istoreN C (pc' := 6) (Ls' := #[.val (.ref a), .val (.int (Int32.ofNat x)), .val (.int (Int32.ofNat y)), .val (.int (Int32.ofNat s)), .unset, .unset]) d4_5 rfl rfl ?_
      refine go_aloadN C (pc' := 7) d4_6 rfl rfl rfl ?_
      refine go_iloadN C (pc' := 8) d4_7 rfl rfl ?_
      refine go_callV C (pc' := 11) (k' := 0) (n' := 0) (argsL := [(.int (Int32.ofNat y))]) (rest := []) (own_w hw (i := 26) rfl) (own_w hw (i := 27) rfl) (own_w hw (i := 29) rfl) (own_w hw (i := 28) rfl) (own_w hw (i := 3) rfl) (own_w hw (i := 30) rfl) (hU.1) (rmFind Z a0 hw a pa sa ha u y l h0 n0 hU hl) d4_8 rfl rfl (lenOf pd4 rfl) (by decide) (by decide) 0 rfl (by decide) rfl rfl (by decide) (by decide) rfl ?_
      rintro _ _ ⟨rfl, rfl⟩
      show Go E RU n0 (QU Z h0 a pa sa ha r u') h0 0 0 11 #[.val (.ref a), .val (.int (Int32.ofNat x)), .val (.int (Int32.ofNat y)), .val (.int (Int32.ofNat s)), .unset, .unset] [(.int (Int32.ofNat l))]
      refine go_istore C (pc' := 13) (Ls' := #[.val (.ref a), .val (.int (Int32.ofNat x)), .val (.int (Int32.ofNat y)), .val (.int (Int32.ofNat s)), .val (.int (Int32.ofNat l)), .unset]) d4_11 rfl rfl ?_
      refine go_iloadN C (pc' := 14) d4_13 rfl rfl ?_
      refine go_iload C (pc' := 16) d4_14 rfl rfl ?_
      by_cases e1 : s = l
      · rw [if_pos e1] at hr
        cases hr
        refine go_icN C (pc' := 19) d4_16 (teq (by rw [e1])).2 rfl ?_
        refine go_iconst C (pc' := 20) (z := 0) d4_19 rfl rfl ?_
        refine go_retZ C d4_20 (by decide) (by decide) (by decide) ?_
        exact ⟨rfl, Keep.refl _ _, hU⟩
      · rw [if_neg e1] at hr
        refine go_icY C (pc' := 21) d4_16 (feq (fun q => e1 (i_inj (Nat.lt_trans hsl hsm) (Nat.lt_trans hll hsm) q))).2 (by decide) (by decide) ?_
        cases hzs : u.2.1[s]? with
        | none => rw [hzs] at hr; cases hr
        | some zs =>
          rw [hzs] at hr
          dsimp only at hr
          cases hzl : u.2.1[l]? with
          | none => rw [hzl] at hr; cases hr
          | some zl =>
            rw [hzl] at hr
            dsimp only at hr
            by_cases c1 : zs < 100 ∧ zl < 100 ∧ u.2.2.2 < u.2.2.1.length
            · rw [if_pos c1] at hr
              refine go_aloadN C (pc' := 22) d4_21 rfl rfl rfl ?_
              refine go_getF C (pc' := 25) (own_w hw (i := 13) rfl) hU.2.2.1 d4_22 rfl ?_
              refine go_iloadN C (pc' := 26) d4_25 rfl rfl ?_
              refine go_nload C (pc' := 27) hU.2.2.2.2.2.2.1 hzs d4_26 rfl ?_
              refine go_aloadN C (pc' := 28) d4_27 rfl rfl rfl ?_
              refine go_getF C (pc' := 31) (own_w hw (i := 13) rfl) hU.2.2.1 d4_28 rfl ?_
              refine go_iload C (pc' := 33) d4_31 rfl rfl ?_
              refine go_nload C (pc' := 34) hU.2.2.2.2.2.2.1 hzl d4_33 rfl ?_
              by_cases c2 : zl < zs
              · rw [if_pos c2] at hr
                cases hr
                refine go_icN C (pc' := 37) d4_34 (Bool.eq_false_iff.mpr fun q => by have q2 : (Int32.ofNat zs).toInt ≤ (Int32.ofNat zl).toInt := (rel_holds .le _ _).mp q; rw [nat_i (by omega), nat_i (by omega)] at q2; omega) rfl ?_
                refine go_iloadN C (pc' := 38) d4_37 rfl rfl ?_
                refine go_istore C (pc' := 40) (Ls' := #[.val (.ref a), .val (.int (Int32.ofNat x)), .val (.int (Int32.ofNat y)), .val (.int (Int32.ofNat s)), .val (.int (Int32.ofNat l)), .val (.int (Int32.ofNat s))]) d4_38 rfl rfl ?_
                refine go_iload C (pc' := 42) d4_40 rfl rfl ?_
                refine go_istoreN C (pc' := 43) (Ls' := #[.val (.ref a), .val (.int (Int32.ofNat x)), .val (.int (Int32.ofNat y)), .val (.int (Int32.ofNat l)), .val (.int (Int32.ofNat l)), .val (.int (Int32.ofNat s))]) d4_42 rfl rfl ?_
                refine go_iload C (pc' := 45) d4_43 rfl rfl ?_
                refine go_istore C (pc' := 47) (Ls' := #[.val (.ref a), .val (.int (Int32.ofNat x)), .val (.int (Int32.ofNat y)), .val (.int (Int32.ofNat l)), .val (.int (Int32.ofNat s)), .val (.int (Int32.ofNat s))]) d4_45 rfl rfl ?_
                exact hang Z a0 hw E C a pa sa ha u.1 u.2.1 u.2.2.1 u.2.2.2 l s zl zs _ _ _ h0 n0 ge hU (Keep.refl _ _) hll hzl hzs c1.2.2
              · rw [if_neg c2] at hr
                cases hr
                refine go_icY C (pc' := 47) d4_34 ((rel_holds .le _ _).mpr (by show (Int32.ofNat zs).toInt ≤ (Int32.ofNat zl).toInt; rw [nat_i (by omega), nat_i (by omega)]; omega)) (by decide) (by decide) ?_
                exact hang Z a0 hw E C a pa sa ha u.1 u.2.1 u.2.2.1 u.2.2.2 s l zs zl _ _ _ h0 n0 ge hU (Keep.refl _ _) hsl hzs hzl c1.2.2
            · rw [if_neg c1] at hr; cases hr
set_option maxRecDepth 65536 in
set_option maxHeartbeats 4000000 in
theorem rmD (Z : State) (a0 : Array Value) (hw : ∀ d ∈ tables_1, d.before a0 Z = true) (a pa sa ha : Nat) (u u' : UFS) (h0 : Heap) (n0 : Nat) (ge : n0 ≤ a ∧ n0 ≤ pa ∧ n0 ≤ sa ∧ n0 ≤ ha) (hU : Uf Z h0 a pa sa ha u) (hr : undoF u = some u') : Met Z (⟨"com/example/joinweave/joinweave/graph/UnionFind", "undo", "()V"⟩ : MethodName) prog_164_method_4_code 2 none R0 #[.ref a] h0 n0 (QD Z h0 a pa sa ha u') := by
  refine met_of (Ls := #[.val (.ref a), .unset]) (plainFor_of_name pn0) (fun m => by first | (simp [entryFrame, mkF, argsToLocals, Value.category]; done) | rfl) ?_
  intro E (C : Cx E Z "com/example/joinweave/joinweave/graph/UnionFind" "undo" prog_164_method_4_code 2 none)
  unfold undoF at hr
  by_cases c0 : 0 < u.2.2.2
  · rw [if_pos c0] at hr
    cases hh : u.2.2.1[u.2.2.2 - 1]? with
    | none => rw [hh] at hr; cases hr
    | some r =>
      rw [hh] at hr
      dsimp only at hr
      cases hp : u.1[r]? with
      | none => rw [hp] at hr; cases hr
      | some p =>
        rw [hp] at hr
        dsimp only at hr
        cases hzp : u.2.1[p]? with
        | none => rw [hzp] at hr; cases hr
        | some zp =>
          rw [hzp] at hr
          dsimp only at hr
          cases hzr : u.2.1[r]? with
          | none => rw [hzr] at hr; cases hr
          | some zr =>
            rw [hzr] at hr
            dsimp only at hr
            by_cases c1 : zr ≤ zp ∧ zp < 100 ∧ u.2.2.2 < 100
            · rw [if_pos c1] at hr
              cases hr
              refine go_aloadN C (pc' := 1) d6_0 rfl rfl rfl ?_
              refine go_getF C (pc' := 4) (own_w hw (i := 19) rfl) hU.2.2.2.1 d6_1 rfl ?_
              refine go_aloadN C (pc' := 5) d6_4 rfl rfl rfl ?_
              refine go_dup C (pc' := 6) d6_5 rfl rfl ?_
              refine go_getF C (pc' := 9) (own_w hw (i := 31) rfl) hU.2.2.2.2.1 d6_6 rfl ?_
              refine go_iconst C (pc' := 10) (z := 1) d6_9 rfl rfl ?_
              refine go_isub C (pc' := 11) d6_10 rfl ?_
              rw [show Int32.ofNat u.2.2.2 - (1 : Int32) = Int32.ofNat (u.2.2.2 - 1) from i_sub (b := 1) c0]
              refine go_dupX1 C (pc' := 12) d6_11 rfl rfl rfl ?_
              refine go_putF C (pc' := 15) (ty := .int) (own_w hw (i := 31) rfl) hU.2.2.2.2.1 hU.1 (Or.inl (own_w hw (i := 32) rfl)) (own_w hw (i := 2) rfl) (by decide) rfl rfl ge.1 d6_12 rfl ?_
              intro h1 W1
              have U1 := hU.wN hw W1
              have K1 := (Keep.refl h0 [a, pa, sa, ha]).wr W1 (Or.inl (List.mem_of_getElem? (i := 0) rfl))
              refine go_nload C (pc' := 16) U1.2.2.2.2.2.2.2.1 hh d6_15 rfl ?_
              refine go_istoreN C (pc' := 17) (Ls' := #[.val (.ref a), .val (.int (Int32.ofNat r))]) d6_16 rfl rfl ?_
              refine go_aloadN C (pc' := 18) d6_17 rfl rfl rfl ?_
              refine go_getF C (pc' := 21) (own_w hw (i := 13) rfl) U1.2.2.1 d6_18 rfl ?_
              refine go_aloadN C (pc' := 22) d6_21 rfl rfl rfl ?_
              refine go_getF C (pc' := 25) (own_w hw (i := 11) rfl) U1.2.1 d6_22 rfl ?_
              refine go_iloadN C (pc' := 26) d6_25 rfl rfl ?_
              refine go_nload C (pc' := 27) U1.2.2.2.2.2.1 hp d6_26 rfl ?_
              refine go_dup2 C (pc' := 28) d6_27 rfl rfl rfl ?_
              refine go_nload C (pc' := 29) U1.2.2.2.2.2.2.1 hzp d6_28 rfl ?_
              refine go_aloadN C (pc' := 30) d6_29 rfl rfl rfl ?_
              refine go_getF C (pc' := 33) (own_w hw (i := 13) rfl) U1.2.2.1 d6_30 rfl ?_
              refine go_iloadN C (pc' := 34) d6_33 rfl rfl ?_
              refine go_nload C (pc' := 35) U1.2.2.2.2.2.2.1 hzr d6_34 rfl ?_
              refine go_isub C (pc' := 36) d6_35 rfl ?_
              rw [i_sub c1.1]
              refine go_nstore C (pc' := 37) U1.2.2.2.2.2.2.1 (List.getElem?_eq_some_iff.mp hzp).1 ge.2.2.1 d6_36 rfl ?_
              intro h2 W2
              have U2 := U1.wS W2
              have K2 := K1.wr W2 (Or.inl (List.mem_of_getElem? (i := 2) rfl))
              refine go_aloadN C (pc' := 38) d6_37 rfl rfl rfl ?_
              refine go_getF C (pc' := 41) (own_w hw (i := 11) rfl) U2.2.1 d6_38 rfl ?_
              refine go_iloadN C (pc' := 42) d6_41 rfl rfl ?_
              refine go_iloadN C (pc' := 43) d6_42 rfl rfl ?_
              refine go_nstore C (pc' := 44) U2.2.2.2.2.2.1 (List.getElem?_eq_some_iff.mp hp).1 ge.2.1 d6_43 rfl ?_
              intro h3 W3
              have U3 := U2.wP W3
              have K3 := K2.wr W3 (Or.inl (List.mem_of_getElem? (i := 1) rfl))
              refine go_retV C d6_44 (by decide) (by decide) ?_
              exact ⟨rfl, K3, U3⟩
            · rw [if_neg c1] at hr; cases hr
  · rw [if_neg c0] at hr; cases hr
set_option maxRecDepth 65536 in
set_option maxHeartbeats 4000000 in
theorem rmMax (Z : State) (h0 : Heap) (n0 : Nat) : Met Z (⟨"java/lang/Math", "max", "(II)I"⟩ : MethodName) jdk_29_method_65_code 2 (some .int) R0 #[.int 0, .int 3] h0 n0 (Qi 3 h0) := by
  refine met_of (Ls := #[.val (.int (0 : Int32)), .val (.int (3 : Int32))]) pn1 (fun m => by first | (simp [entryFrame, mkF, argsToLocals, Value.category]; done) | rfl) ?_
  intro E (C : Cx E Z "java/lang/Math" "max" jdk_29_method_65_code 2 (some .int))
  refine go_iloadN C (pc' := 1) d3_0 rfl rfl ?_
  refine go_iloadN C (pc' := 2) d3_1 rfl rfl ?_
  refine go_icY C (pc' := 9) d3_2 (by decide) (by decide) (by decide) ?_
  refine go_iloadN C (pc' := 10) d3_9 rfl rfl ?_
  refine go_retI C d3_10 (by decide) (by decide) ?_
  exact ⟨rfl, rfl⟩
def initF : UFS := ([0, 1, 2, 3], [1, 1, 1, 1], [0, 0, 0], 0)
def QI (Z : State) (n0 : Nat) (h0 : Heap) (a : Nat) (v : Option Value) (h : Heap) : Prop := v = none ∧ ∃ pa sa ha : Nat, (h0.size ≤ pa ∧ pa < sa ∧ sa < ha) ∧ Keep h0 h [a] ∧ Uf Z h a pa sa ha initF
set_option maxRecDepth 65536 in
set_option maxHeartbeats 4000000 in
theorem rmInit (Z : State) (a0 : Array Value) (hw : ∀ d ∈ tables_1, d.before a0 Z = true) (a : Nat) (h0 : Heap) (n0 : Nat) (hn0 : n0 ≤ h0.size) (ga : n0 ≤ a) (X0 : Exa Z h0 a "com/example/joinweave/joinweave/graph/UnionFind") (Fparent0 : Fld Z h0 a "com/example/joinweave/joinweave/graph/UnionFind" "parent" "[I" .null) (Fsize0 : Fld Z h0 a "com/example/joinweave/joinweave/graph/UnionFind" "size" "[I" .null) (Fhung0 : Fld Z h0 a "com/example/joinweave/joinweave/graph/UnionFind" "hung" "[I" .null) (Funions0 : Fld Z h0 a "com/example/joinweave/joinweave/graph/UnionFind" "unions" "I" (.int 0)) : Met Z (⟨"com/example/joinweave/joinweave/graph/UnionFind", "<init>", "(I)V"⟩ : MethodName) prog_164_method_1_code 3 none RI #[.ref a, .int 4] h0 n0 (QI Z n0 h0 a) := by
  refine met_of (Ls := #[.val (.ref a), .val (.int (4 : Int32)), .unset]) (plainFor_of_name pn0) (fun m => by first | (simp [entryFrame, mkF, argsToLocals, Value.category]; done) | rfl) ?_
  intro E (C : Cx E Z "com/example/joinweave/joinweave/graph/UnionFind" "<init>" prog_164_method_1_code 3 none)
  have K0 := Keep.refl h0 [a]
  have alt := exa_lt X0
  refine go_aloadN C (pc' := 1) d1_0 rfl rfl rfl ?_
  refine go_initO C (pc' := 4) (own_w hw (i := 7) rfl) (own_w hw (i := 8) rfl) (own_w hw (i := 9) rfl) d1_1 rfl (by decide) 0 rfl (by decide) rfl ?_
  refine go_aloadN C (pc' := 5) d1_4 rfl rfl rfl ?_
  refine go_iloadN C (pc' := 6) d1_5 rfl rfl ?_
  refine go_nnew C (aty := .int) (z := 4) (pc' := 8) (k' := 1) (n' := 4) (own_w hw (i := 10) rfl) rfl (by decide) d1_6 rfl rfl (by decide) (by decide) rfl ?_
  intro h1 x1 B1
  obtain ⟨pa, epa⟩ : ∃ q, q = h0.size := ⟨_, rfl⟩
  rw [← epa] at B1 ⊢
  have s1 := x1.1
  have t1 := Ai.lt B1
  have K1 := K0.ext x1
  have X1 := X0.ext x1
  have Fparent1 := Fparent0.ext x1
  have Fsize1 := Fsize0.ext x1
  have Fhung1 := Fhung0.ext x1
  have Funions1 := Funions0.ext x1
  have Apa := B1
  refine go_putF C (pc' := 11) (ty := .array .int) (own_w hw (i := 11) rfl) Fparent1 X1 (Or.inr ⟨(own_w hw (i := 12) rfl), rfl, rfl⟩) (own_w hw (i := 2) rfl) (by decide) rfl rfl ga d1_8 rfl ?_
  intro h2 W2
  have s2 := W2.size
  have K2 := K1.wr W2 (Or.inl (List.mem_singleton.mpr rfl))
  have X2 := X1.wr W2
  have Fparent2 := Fparent1.same W2
  have Fsize2 := Fsize1.other W2 (Or.inr (slot_ne (Or.inr (own_w hw (i := 14) rfl)) (Or.inr (own_w hw (i := 12) rfl)) (by decide) (t := (.array .int)) (t' := (.array .int)) (by decide) (by decide)))
  have Fhung2 := Fhung1.other W2 (Or.inr (slot_ne (Or.inr (own_w hw (i := 20) rfl)) (Or.inr (own_w hw (i := 12) rfl)) (by decide) (t := (.array .int)) (t' := (.array .int)) (by decide) (by decide)))
  have Funions2 := Funions1.other W2 (Or.inr (slot_ne (Or.inl (own_w hw (i := 32) rfl)) (Or.inr (own_w hw (i := 12) rfl)) (by decide) (t := .int) (t' := (.array .int)) (by decide) (by decide)))
  replace Apa := Ai.other Apa W2 (by omega)
  refine go_aloadN C (pc' := 12) d1_11 rfl rfl rfl ?_
  refine go_iloadN C (pc' := 13) d1_12 rfl rfl ?_
  refine go_nnew C (aty := .int) (z := 4) (pc' := 15) (k' := 2) (n' := 8) (own_w hw (i := 10) rfl) rfl (by decide) d1_13 rfl rfl (by decide) (by decide) rfl ?_
  intro h3 x3 B3
  obtain ⟨sa, esa⟩ : ∃ q, q = h2.size := ⟨_, rfl⟩
  rw [← esa] at B3 ⊢
  have s3 := x3.1
  have t3 := Ai.lt B3
  have K3 := K2.ext x3
  have X3 := X2.ext x3
  have Fparent3 := Fparent2.ext x3
  have Fsize3 := Fsize2.ext x3
  have Fhung3 := Fhung2.ext x3
  have Funions3 := Funions2.ext x3
  replace Apa := Ai.ext Apa x3
  have Asa := B3
  refine go_putF C (pc' := 18) (ty := .array .int) (own_w hw (i := 13) rfl) Fsize3 X3 (Or.inr ⟨(own_w hw (i := 14) rfl), rfl, rfl⟩) (own_w hw (i := 2) rfl) (by decide) rfl rfl ga d1_15 rfl ?_
  intro h4 W4
  have s4 := W4.size
  have K4 := K3.wr W4 (Or.inl (List.mem_singleton.mpr rfl))
  have X4 := X3.wr W4
  have Fparent4 := Fparent3.other W4 (Or.inr (slot_ne (Or.inr (own_w hw (i := 12) rfl)) (Or.inr (own_w hw (i := 14) rfl)) (by decide) (t := (.array .int)) (t' := (.array .int)) (by decide) (by decide)))
  have Fsize4 := Fsize3.same W4
  have Fhung4 := Fhung3.other W4 (Or.inr (slot_ne (Or.inr (own_w hw (i := 20) rfl)) (Or.inr (own_w hw (i := 14) rfl)) (by decide) (t := (.array .int)) (t' := (.array .int)) (by decide) (by decide)))
  have Funions4 := Funions3.other W4 (Or.inr (slot_ne (Or.inl (own_w hw (i := 32) rfl)) (Or.inr (own_w hw (i := 14) rfl)) (by decide) (t := .int) (t' := (.array .int)) (by decide) (by decide)))
  replace Apa := Ai.other Apa W4 (by omega)
  replace Asa := Ai.other Asa W4 (by omega)
  refine go_aloadN C (pc' := 19) d1_18 rfl rfl rfl ?_
  refine go_iconst C (pc' := 20) (z := 0) d1_19 rfl rfl ?_
  refine go_iloadN C (pc' := 21) d1_20 rfl rfl ?_
  refine go_iconst C (pc' := 22) (z := 1) d1_21 rfl rfl ?_
  refine go_isub C (pc' := 23) d1_22 rfl ?_
  show Go E RI n0 (QI Z n0 h0 a) h4 2 8 23 #[.val (.ref a), .val (.int (4 : Int32)), .unset] [(.int (3 : Int32)), (.int (0 : Int32)), (.ref a)]
  refine go_callS C (pc' := 26) (k' := 2) (n' := 8) (argsL := [(.int (0 : Int32)), (.int (3 : Int32))]) (rest := [(.ref a)]) (own_w hw (i := 15) rfl) (own_w hw (i := 16) rfl) (own_w hw (i := 17) rfl) (own_w hw (i := 18) rfl) (rmMax Z _ n0) d1_23 rfl rfl (lenOf pd2 rfl) (by decide) (by decide) 1 rfl (by decide) rfl rfl (by decide) (by decide) rfl ?_
  rintro _ _ ⟨rfl, rfl⟩
  show Go E RI n0 (QI Z n0 h0 a) h4 2 8 26 #[.val (.ref a), .val (.int (4 : Int32)), .unset] [(.int (Int32.ofNat 3)), (.ref a)]
  refine go_nnew C (aty := .int) (z := 3) (pc' := 28) (k' := 3) (n' := 11) (own_w hw (i := 10) rfl) rfl (by decide) d1_26 rfl rfl (by decide) (by decide) rfl ?_
  intro h5 x5 B5
  obtain ⟨ha, eha⟩ : ∃ q, q = h4.size := ⟨_, rfl⟩
  rw [← eha] at B5 ⊢
  have s5 := x5.1
  have t5 := Ai.lt B5
  have K5 := K4.ext x5
  have X5 := X4.ext x5
  have Fparent5 := Fparent4.ext x5
  have Fsize5 := Fsize4.ext x5
  have Fhung5 := Fhung4.ext x5
  have Funions5 := Funions4.ext x5
  replace Apa := Ai.ext Apa x5
  replace Asa := Ai.ext Asa x5
  have Aha := B5
  refine go_putF C (pc' := 31) (ty := .array .int) (own_w hw (i := 19) rfl) Fhung5 X5 (Or.inr ⟨(own_w hw (i := 20) rfl), rfl, rfl⟩) (own_w hw (i := 2) rfl) (by decide) rfl rfl ga d1_28 rfl ?_
  intro h6 W6
  have s6 := W6.size
  have K6 := K5.wr W6 (Or.inl (List.mem_singleton.mpr rfl))
  have X6 := X5.wr W6
  have Fparent6 := Fparent5.other W6 (Or.inr (slot_ne (Or.inr (own_w hw (i := 12) rfl)) (Or.inr (own_w hw (i := 20) rfl)) (by decide) (t := (.array .int)) (t' := (.array .int)) (by decide) (by decide)))
  have Fsize6 := Fsize5.other W6 (Or.inr (slot_ne (Or.inr (own_w hw (i := 14) rfl)) (Or.inr (own_w hw (i := 20) rfl)) (by decide) (t := (.array .int)) (t' := (.array .int)) (by decide) (by decide)))
  have Fhung6 := Fhung5.same W6
  have Funions6 := Funions5.other W6 (Or.inr (slot_ne (Or.inl (own_w hw (i := 32) rfl)) (Or.inr (own_w hw (i := 20) rfl)) (by decide) (t := .int) (t' := (.array .int)) (by decide) (by decide)))
  replace Apa := Ai.other Apa W6 (by omega)
  replace Asa := Ai.other Asa W6 (by omega)
  replace Aha := Ai.other Aha W6 (by omega)
  refine go_iconst C (pc' := 32) (z := 0) d1_31 rfl rfl ?_
  refine go_istoreN C (pc' := 33) (Ls' := #[.val (.ref a), .val (.int (4 : Int32)), .val (.int (0 : Int32))]) d1_32 rfl rfl ?_
  refine go_iloadN C (pc' := 34) d1_33 rfl rfl ?_
  refine go_iloadN C (pc' := 35) d1_34 rfl rfl ?_
  have U0 : Uf Z h6 a pa sa ha ([0, 0, 0, 0], [0, 0, 0, 0], [0, 0, 0], 0) := ⟨X6, Fparent6, Fsize6, Fhung6, Funions6, Apa, Asa, Aha, by omega, by omega, by omega, by omega, by omega, by omega⟩
  refine go_icN C (pc' := 38) d1_35 (by decide) rfl ?_
  refine go_aloadN C (pc' := 39) d1_38 rfl rfl rfl ?_
  refine go_getF C (pc' := 42) (own_w hw (i := 11) rfl) U0.2.1 d1_39 rfl ?_
  refine go_iloadN C (pc' := 43) d1_42 rfl rfl ?_
  refine go_iloadN C (pc' := 44) d1_43 rfl rfl ?_
  refine go_nstore C (i := 0) (v := 0) (pc' := 45) U0.2.2.2.2.2.1 (by decide) (by omega) d1_44 rfl ?_
  intro h7 W7
  have U7 := U0.wP W7
  have K7 := keep_wr K6 W7 (by omega)
  refine go_aloadN C (pc' := 46) d1_45 rfl rfl rfl ?_
  refine go_getF C (pc' := 49) (own_w hw (i := 13) rfl) U7.2.2.1 d1_46 rfl ?_
  refine go_iloadN C (pc' := 50) d1_49 rfl rfl ?_
  refine go_iconst C (pc' := 51) (z := 1) d1_50 rfl rfl ?_
  refine go_nstore C (i := 0) (v := 1) (pc' := 52) U7.2.2.2.2.2.2.1 (by decide) (by omega) d1_51 rfl ?_
  intro h8 W8
  have U8 := U7.wS W8
  have K8 := keep_wr K7 W8 (by omega)
  refine go_iinc C (pc' := 55) (z := 1) (Ls' := #[.val (.ref a), .val (.int (4 : Int32)), .val (.int (1 : Int32))]) d1_52 rfl rfl rfl rfl ?_
  refine go_goto C (pc' := 33) d1_55 (by decide) (by decide) ?_
  refine go_iloadN C (pc' := 34) d1_33 rfl rfl ?_
  refine go_iloadN C (pc' := 35) d1_34 rfl rfl ?_
  refine go_icN C (pc' := 38) d1_35 (by decide) rfl ?_
  refine go_aloadN C (pc' := 39) d1_38 rfl rfl rfl ?_
  refine go_getF C (pc' := 42) (own_w hw (i := 11) rfl) U8.2.1 d1_39 rfl ?_
  refine go_iloadN C (pc' := 43) d1_42 rfl rfl ?_
  refine go_iloadN C (pc' := 44) d1_43 rfl rfl ?_
  refine go_nstore C (i := 1) (v := 1) (pc' := 45) U8.2.2.2.2.2.1 (by decide) (by omega) d1_44 rfl ?_
  intro h9 W9
  have U9 := U8.wP W9
  have K9 := keep_wr K8 W9 (by omega)
  refine go_aloadN C (pc' := 46) d1_45 rfl rfl rfl ?_
  refine go_getF C (pc' := 49) (own_w hw (i := 13) rfl) U9.2.2.1 d1_46 rfl ?_
  refine go_iloadN C (pc' := 50) d1_49 rfl rfl ?_
  refine go_iconst C (pc' := 51) (z := 1) d1_50 rfl rfl ?_
  refine go_nstore C (i := 1) (v := 1) (pc' := 52) U9.2.2.2.2.2.2.1 (by decide) (by omega) d1_51 rfl ?_
  intro h10 W10
  have U10 := U9.wS W10
  have K10 := keep_wr K9 W10 (by omega)
  refine go_iinc C (pc' := 55) (z := 1) (Ls' := #[.val (.ref a), .val (.int (4 : Int32)), .val (.int (2 : Int32))]) d1_52 rfl rfl rfl rfl ?_
  refine go_goto C (pc' := 33) d1_55 (by decide) (by decide) ?_
  refine go_iloadN C (pc' := 34) d1_33 rfl rfl ?_
  refine go_iloadN C (pc' := 35) d1_34 rfl rfl ?_
  refine go_icN C (pc' := 38) d1_35 (by decide) rfl ?_
  refine go_aloadN C (pc' := 39) d1_38 rfl rfl rfl ?_
  refine go_getF C (pc' := 42) (own_w hw (i := 11) rfl) U10.2.1 d1_39 rfl ?_
  refine go_iloadN C (pc' := 43) d1_42 rfl rfl ?_
  refine go_iloadN C (pc' := 44) d1_43 rfl rfl ?_
  refine go_nstore C (i := 2) (v := 2) (pc' := 45) U10.2.2.2.2.2.1 (by decide) (by omega) d1_44 rfl ?_
  intro h11 W11
  have U11 := U10.wP W11
  have K11 := keep_wr K10 W11 (by omega)
  refine go_aloadN C (pc' := 46) d1_45 rfl rfl rfl ?_
  refine go_getF C (pc' := 49) (own_w hw (i := 13) rfl) U11.2.2.1 d1_46 rfl ?_
  refine go_iloadN C (pc' := 50) d1_49 rfl rfl ?_
  refine go_iconst C (pc' := 51) (z := 1) d1_50 rfl rfl ?_
  refine go_nstore C (i := 2) (v := 1) (pc' := 52) U11.2.2.2.2.2.2.1 (by decide) (by omega) d1_51 rfl ?_
  intro h12 W12
  have U12 := U11.wS W12
  have K12 := keep_wr K11 W12 (by omega)
  refine go_iinc C (pc' := 55) (z := 1) (Ls' := #[.val (.ref a), .val (.int (4 : Int32)), .val (.int (3 : Int32))]) d1_52 rfl rfl rfl rfl ?_
  refine go_goto C (pc' := 33) d1_55 (by decide) (by decide) ?_
  refine go_iloadN C (pc' := 34) d1_33 rfl rfl ?_
  refine go_iloadN C (pc' := 35) d1_34 rfl rfl ?_
  refine go_icN C (pc' := 38) d1_35 (by decide) rfl ?_
  refine go_aloadN C (pc' := 39) d1_38 rfl rfl rfl ?_
  refine go_getF C (pc' := 42) (own_w hw (i := 11) rfl) U12.2.1 d1_39 rfl ?_
  refine go_iloadN C (pc' := 43) d1_42 rfl rfl ?_
  refine go_iloadN C (pc' := 44) d1_43 rfl rfl ?_
  refine go_nstore C (i := 3) (v := 3) (pc' := 45) U12.2.2.2.2.2.1 (by decide) (by omega) d1_44 rfl ?_
  intro h13 W13
  have U13 := U12.wP W13
  have K13 := keep_wr K12 W13 (by omega)
  refine go_aloadN C (pc' := 46) d1_45 rfl rfl rfl ?_
  refine go_getF C (pc' := 49) (own_w hw (i := 13) rfl) U13.2.2.1 d1_46 rfl ?_
  refine go_iloadN C (pc' := 50) d1_49 rfl rfl ?_
  refine go_iconst C (pc' := 51) (z := 1) d1_50 rfl rfl ?_
  refine go_nstore C (i := 3) (v := 1) (pc' := 52) U13.2.2.2.2.2.2.1 (by decide) (by omega) d1_51 rfl ?_
  intro h14 W14
  have U14 := U13.wS W14
  have K14 := keep_wr K13 W14 (by omega)
  refine go_iinc C (pc' := 55) (z := 1) (Ls' := #[.val (.ref a), .val (.int (4 : Int32)), .val (.int (4 : Int32))]) d1_52 rfl rfl rfl rfl ?_
  refine go_goto C (pc' := 33) d1_55 (by decide) (by decide) ?_
  refine go_iloadN C (pc' := 34) d1_33 rfl rfl ?_
  refine go_iloadN C (pc' := 35) d1_34 rfl rfl ?_
  refine go_icY C (pc' := 58) d1_35 (by decide) (by decide) (by decide) ?_
  refine go_retV C d1_58 (by decide) (by decide) ?_
  exact ⟨rfl, pa, sa, ha, ⟨by omega, by omega, by omega⟩, K14, U14⟩
/-! ## the plain law -/
def lawF (p0 q0 p1 q1 p3 q3 x : Nat) : Bool :=
  match unionF initF p0 q0 with
  | none => false
  | some t1 => match unionF t1.2 p1 q1 with
    | none => false
    | some t2 => match undoF t2.2 with
      | none => false
      | some u3 => match unionF u3 p3 q3 with
        | none => false
        | some t4 => match unionF (if t2.1 = 1 then t1.2 else initF) p3 q3 with
          | none => false
          | some t5 => match findF t4.2.1 8 x with
            | none => false
            | some y => decide (t1.1 = 1 ∧ findF t5.2.1 8 x = some y ∧ t5.1 = t4.1 ∧ (t2.1 = 0 ∨ t2.1 = 1) ∧ (t4.1 = 0 ∨ t4.1 = 1) ∧ t4.2.2.2.2 = t2.1 + t4.1 ∧ t4.2.1.length = 4)
theorem law_all : ∀ (p0 : Fin 4) (d : Fin 3) (p1 q1 p3 q3 x : Fin 4), lawF p0.val ((p0.val + 1 + d.val) % 4) p1.val q1.val p3.val q3.val x.val = true := by decide +kernel
theorem law_of {p0 q0 p1 q1 p3 q3 x : Nat} (h : lawF p0 q0 p1 q1 p3 q3 x = true) : ∃ (u1 u2 u3 u4 w1 w2 : UFS) (sec r3 y : Nat), unionF initF p0 q0 = some (1, u1) ∧ unionF u1 p1 q1 = some (sec, u2) ∧ undoF u2 = some u3 ∧ unionF u3 p3 q3 = some (r3, u4) ∧ unionF w1 p3 q3 = some (r3, w2) ∧ findF u4.1 8 x = some y ∧ findF w2.1 8 x = some y ∧ ((sec = 0 ∧ w1 = initF) ∨ (sec = 1 ∧ u1 = w1)) ∧ (r3 = 0 ∨ r3 = 1) ∧ u4.2.2.2 = sec + r3 ∧ u4.1.length = 4 := by
  unfold lawF at h
  cases e1 : unionF initF p0 q0 with
  | none => rw [e1] at h; cases h
  | some t1 =>
    rw [e1] at h; dsimp only at h
    cases e2 : unionF t1.2 p1 q1 with
    | none => rw [e2] at h; cases h
    | some t2 =>
      rw [e2] at h; dsimp only at h
      cases e3 : undoF t2.2 with
      | none => rw [e3] at h; cases h
      | some u3 =>
        rw [e3] at h; dsimp only at h
        cases e4 : unionF u3 p3 q3 with
        | none => rw [e4] at h; cases h
        | some t4 =>
          rw [e4] at h; dsimp only at h
          cases e5 : unionF (if t2.1 = 1 then t1.2 else initF) p3 q3 with
          | none => rw [e5] at h; cases h
          | some t5 =>
            rw [e5] at h; dsimp only at h
            cases e6 : findF t4.2.1 8 x with
            | none => rw [e6] at h; cases h
            | some y =>
              rw [e6] at h; dsimp only at h
              obtain ⟨c1, c2, c3, c4, c5, c6, c7⟩ := of_decide_eq_true h
              obtain ⟨f1, u1⟩ := t1; obtain ⟨sec, u2⟩ := t2; obtain ⟨r3, u4⟩ := t4; obtain ⟨s3, w2⟩ := t5
              dsimp only at c1 c2 c3 c4 c5 c6 c7 e2 e3 e5 e6
              subst c1 c3
              refine ⟨u1, u2, u3, u4, _, w2, sec, _, y, rfl, e2, e3, e4, e5, e6, c2, ?_, c5, c6, c7⟩
              rcases c4 with rfl | rfl
              · exact Or.inl ⟨rfl, rfl⟩
              · exact Or.inr ⟨rfl, rfl⟩
theorem own_m3 (z : Int32) : ∃ k : Fin 4, z &&& (3 : Int32) = Int32.ofNat k.val := by
  have m1 := c_mask z 3 2 (by decide) (by decide)
  exact ⟨⟨(z &&& (3 : Int32)).toInt.toNat, by omega⟩, Int32.toInt_inj.mp (by rw [nat_i (by show (z &&& (3 : Int32)).toInt.toNat < _; omega)]; show _ = (((z &&& (3 : Int32)).toInt.toNat : Nat) : Int); omega)⟩
theorem own_r3 (y : Int32) : ∃ d : Fin 3, (y &&& (2147483647 : Int32)) % (3 : Int32) = Int32.ofNat d.val := by
  have m1 := c_mask y 2147483647 31 (by decide) (by decide)
  have m2 := (c_irem (y &&& (2147483647 : Int32)) 3 3 (by decide)).1 (by omega)
  exact ⟨⟨((y &&& (2147483647 : Int32)) % (3 : Int32)).toInt.toNat, by omega⟩, Int32.toInt_inj.mp (by rw [nat_i (by show ((y &&& (2147483647 : Int32)) % (3 : Int32)).toInt.toNat < _; omega)]; show _ = ((((y &&& (2147483647 : Int32)) % (3 : Int32)).toInt.toNat : Nat) : Int); omega)⟩
theorem own_q0 : ∀ (p : Fin 4) (d : Fin 3), ((Int32.ofNat p.val + (1 : Int32)) + Int32.ofNat d.val) &&& (3 : Int32) = Int32.ofNat ((p.val + 1 + d.val) % 4) := by decide +kernel
theorem nin4 {x a b c d : Nat} (h1 : x ≠ a) (h2 : x ≠ b) (h3 : x ≠ c) (h4 : x ≠ d) : x ∉ [a, b, c, d] := ninS h1 (ninS h2 (ninS h3 (ninS h4 nin0)))
def Q1 (v : Option Value) (h : Heap) : Prop := v = some (.int 1)
set_option maxRecDepth 65536 in
set_option maxHeartbeats 4000000 in
theorem rm0 (Z : State) (a0 : Array Value) (hw : ∀ d ∈ tables_1, d.before a0 Z = true) (a b c d e f : Int32) (h0 : Heap) (n0 : Nat) (Z0 : n0 ≤ h0.size) : Met Z Jvm.Pilot.@@N@@.x code maxLocals ret room_1 #[.int a, .int b, .int c, .int d, .int e, .int f] h0 n0 Q1 := by
  refine met_of (Ls := #[.val (.int a), .val (.int b), .val (.int c), .val (.int d), .val (.int e), .val (.int f), .unset, .unset, .unset, .unset, .unset, .unset, .unset, .unset, .unset, .unset, .unset, .unset, .unset, .unset]) (plainFor_of_name pn2) (fun m => by first | (simp [entryFrame, mkF, argsToLocals, Value.category, maxLocals]; done) | rfl) ?_
  intro E (C : Cx E Z "com/example/joinweave/joinweave/graph/UnionFindUndoPinLaw" "law" code 20 (some .boolean))
  refine go_iloadN C (pc' := 1) at_0 rfl rfl ?_
  refine go_iconst C (pc' := 2) (z := 3) at_1 rfl rfl ?_
  refine go_iand C (pc' := 3) at_2 rfl ?_
  obtain ⟨p0, ep0⟩ := own_m3 a
  rw [ep0]
  refine go_istore C (pc' := 5) (Ls' := #[.val (.int a), .val (.int b), .val (.int c), .val (.int d), .val (.int e), .val (.int f), .val (.int (Int32.ofNat p0.val)), .unset, .unset, .unset, .unset, .unset, .unset, .unset, .unset, .unset, .unset, .unset, .unset, .unset]) at_3 rfl rfl ?_
  refine go_iload C (pc' := 7) at_5 rfl rfl ?_
  refine go_iconst C (pc' := 8) (z := 1) at_7 rfl rfl ?_
  refine go_iadd C (pc' := 9) at_8 rfl ?_
  refine go_iloadN C (pc' := 10) at_9 rfl rfl ?_
  refine go_ldc C (pc' := 12) (z := 2147483647) at_10 (own_w hw (i := 0) rfl) rfl ?_
  refine go_iand C (pc' := 13) at_12 rfl ?_
  refine go_iconst C (pc' := 14) (z := 3) at_13 rfl rfl ?_
  refine go_irem C (pc' := 15) at_14 (by decide) rfl ?_
  obtain ⟨d0, ed0⟩ := own_r3 b
  rw [ed0]
  refine go_iadd C (pc' := 16) at_15 rfl ?_
  refine go_iconst C (pc' := 17) (z := 3) at_16 rfl rfl ?_
  refine go_iand C (pc' := 18) at_17 rfl ?_
  rw [own_q0 p0 d0]
  refine go_istore C (pc' := 20) (Ls' := #[.val (.int a), .val (.int b), .val (.int c), .val (.int d), .val (.int e), .val (.int f), .val (.int (Int32.ofNat p0.val)), .val (.int (Int32.ofNat ((p0.val + 1 + d0.val) % 4))), .unset, .unset, .unset, .unset, .unset, .unset, .unset, .unset, .unset, .unset, .unset, .unset]) at_18 rfl rfl ?_
  refine go_iloadN C (pc' := 21) at_20 rfl rfl ?_
  refine go_iconst C (pc' := 22) (z := 3) at_21 rfl rfl ?_
  refine go_iand C (pc' := 23) at_22 rfl ?_
  obtain ⟨p1, ep1⟩ := own_m3 c
  rw [ep1]
  refine go_istore C (pc' := 25) (Ls' := #[.val (.int a), .val (.int b), .val (.int c), .val (.int d), .val (.int e), .val (.int f), .val (.int (Int32.ofNat p0.val)), .val (.int (Int32.ofNat ((p0.val + 1 + d0.val) % 4))), .val (.int (Int32.ofNat p1.val)), .unset, .unset, .unset, .unset, .unset, .unset, .unset, .unset, .unset, .unset, .unset]) at_23 rfl rfl ?_
  refine go_iloadN C (pc' := 26) at_25 rfl rfl ?_
  refine go_iconst C (pc' := 27) (z := 3) at_26 rfl rfl ?_
  refine go_iand C (pc' := 28) at_27 rfl ?_
  obtain ⟨q1, eq1⟩ := own_m3 d
  rw [eq1]
  refine go_istore C (pc' := 30) (Ls' := #[.val (.int a), .val (.int b), .val (.int c), .val (.int d), .val (.int e), .val (.int f), .val (.int (Int32.ofNat p0.val)), .val (.int (Int32.ofNat ((p0.val + 1 + d0.val) % 4))), .val (.int (Int32.ofNat p1.val)), .val (.int (Int32.ofNat q1.val)), .unset, .unset, .unset, .unset, .unset, .unset, .unset, .unset, .unset, .unset]) at_28 rfl rfl ?_
  refine go_iload C (pc' := 32) at_30 rfl rfl ?_
  refine go_iconst C (pc' := 33) (z := 3) at_32 rfl rfl ?_
  refine go_iand C (pc' := 34) at_33 rfl ?_
  obtain ⟨p3, ep3⟩ := own_m3 e
  rw [ep3]
  refine go_istore C (pc' := 36) (Ls' := #[.val (.int a), .val (.int b), .val (.int c), .val (.int d), .val (.int e), .val (.int f), .val (.int (Int32.ofNat p0.val)), .val (.int (Int32.ofNat ((p0.val + 1 + d0.val) % 4))), .val (.int (Int32.ofNat p1.val)), .val (.int (Int32.ofNat q1.val)), .val (.int (Int32.ofNat p3.val)), .unset, .unset, .unset, .unset, .unset, .unset, .unset, .unset, .unset]) at_34 rfl rfl ?_
  refine go_iload C (pc' := 38) at_36 rfl rfl ?_
  refine go_iconst C (pc' := 39) (z := 2) at_38 rfl rfl ?_
  refine go_iushr C (pc' := 40) at_39 rfl ?_
  refine go_iconst C (pc' := 41) (z := 3) at_40 rfl rfl ?_
  refine go_iand C (pc' := 42) at_41 rfl ?_
  obtain ⟨q3, eq3⟩ := own_m3 (XT.ushr e (2 : Int32))
  rw [eq3]
  refine go_istore C (pc' := 44) (Ls' := #[.val (.int a), .val (.int b), .val (.int c), .val (.int d), .val (.int e), .val (.int f), .val (.int (Int32.ofNat p0.val)), .val (.int (Int32.ofNat ((p0.val + 1 + d0.val) % 4))), .val (.int (Int32.ofNat p1.val)), .val (.int (Int32.ofNat q1.val)), .val (.int (Int32.ofNat p3.val)), .val (.int (Int32.ofNat q3.val)), .unset, .unset, .unset, .unset, .unset, .unset, .unset, .unset]) at_42 rfl rfl ?_
  refine go_iload C (pc' := 46) at_44 rfl rfl ?_
  refine go_iconst C (pc' := 47) (z := 3) at_46 rfl rfl ?_
  refine go_iand C (pc' := 48) at_47 rfl ?_
  obtain ⟨xx, exx⟩ := own_m3 f
  rw [exx]
  refine go_istore C (pc' := 50) (Ls' := #[.val (.int a), .val (.int b), .val (.int c), .val (.int d), .val (.int e), .val (.int f), .val (.int (Int32.ofNat p0.val)), .val (.int (Int32.ofNat ((p0.val + 1 + d0.val) % 4))), .val (.int (Int32.ofNat p1.val)), .val (.int (Int32.ofNat q1.val)), .val (.int (Int32.ofNat p3.val)), .val (.int (Int32.ofNat q3.val)), .val (.int (Int32.ofNat xx.val)), .unset, .unset, .unset, .unset, .unset, .unset, .unset]) at_48 rfl rfl ?_
  obtain ⟨u1, u2, u3, u4, w1, w2, sec, r3, y, e1, e2, e3, e4, e5, e6, e7, hsec, hr3, hun, hlen⟩ := law_of (law_all p0 d0 p1 q1 p3 q3 xx)
  refine go_newO C (pc' := 53) (k' := 1) (n' := 4) (own_w hw (i := 1) rfl) (own_w hw (i := 2) rfl) (own_w hw (i := 3) rfl) at_50 rfl rfl (by decide) (by decide) rfl ?_
  intro hn1 x1 A1 D1
  obtain ⟨a1, ea1⟩ : ∃ q, q = h0.size := ⟨_, rfl⟩
  rw [← ea1] at A1 D1 ⊢
  have zn1 := x1.1
  have g1 : n0 ≤ a1 := by omega
  refine go_dup C (pc' := 54) at_53 rfl rfl ?_
  refine go_iconst C (pc' := 55) (z := 4) at_54 rfl rfl ?_
  refine go_callC C (pc' := 58) (k' := 4) (n' := 15) (argsL := [(.int (4 : Int32))]) (rest := [(.ref a1)]) (own_w hw (i := 4) rfl) (own_w hw (i := 5) rfl) (own_w hw (i := 3) rfl) (own_w hw (i := 6) rfl) rfl (rmInit Z a0 hw a1 hn1 n0 (by omega) g1 A1 (D1 (Or.inr (own_w hw (i := 12) rfl)) (ty := (.array .int)) (by decide)) (D1 (Or.inr (own_w hw (i := 14) rfl)) (ty := (.array .int)) (by decide)) (D1 (Or.inr (own_w hw (i := 20) rfl)) (ty := (.array .int)) (by decide)) (D1 (Or.inl (own_w hw (i := 32) rfl)) (ty := .int) (by decide))) at_55 rfl rfl (lenOf pd0 rfl) (by decide) (by decide) 1 rfl (by decide) rfl rfl (by decide) (by decide) rfl ?_
  rintro _ hc1 ⟨rfl, pa1, sa1, ha1, zz1, K1, U1⟩
  have zc1 := K1.1
  have lt1 := U1.lt
  have ge1 : n0 ≤ a1 ∧ n0 ≤ pa1 ∧ n0 ≤ sa1 ∧ n0 ≤ ha1 := ⟨by omega, by omega, by omega, by omega⟩
  show Go E room_1 n0 Q1 hc1 4 15 58 #[.val (.int a), .val (.int b), .val (.int c), .val (.int d), .val (.int e), .val (.int f), .val (.int (Int32.ofNat p0.val)), .val (.int (Int32.ofNat ((p0.val + 1 + d0.val) % 4))), .val (.int (Int32.ofNat p1.val)), .val (.int (Int32.ofNat q1.val)), .val (.int (Int32.ofNat p3.val)), .val (.int (Int32.ofNat q3.val)), .val (.int (Int32.ofNat xx.val)), .unset, .unset, .unset, .unset, .unset, .unset, .unset] [(.ref a1)]
  refine go_astore C (pc' := 60) (Ls' := #[.val (.int a), .val (.int b), .val (.int c), .val (.int d), .val (.int e), .val (.int f), .val (.int (Int32.ofNat p0.val)), .val (.int (Int32.ofNat ((p0.val + 1 + d0.val) % 4))), .val (.int (Int32.ofNat p1.val)), .val (.int (Int32.ofNat q1.val)), .val (.int (Int32.ofNat p3.val)), .val (.int (Int32.ofNat q3.val)), .val (.int (Int32.ofNat xx.val)), .val (.ref a1), .unset, .unset, .unset, .unset, .unset, .unset]) at_58 rfl rfl rfl ?_
  refine go_newO C (pc' := 63) (k' := 5) (n' := 19) (own_w hw (i := 1) rfl) (own_w hw (i := 2) rfl) (own_w hw (i := 3) rfl) at_60 rfl rfl (by decide) (by decide) rfl ?_
  intro hn2 x2 A2 D2
  obtain ⟨a2, ea2⟩ : ∃ q, q = hc1.size := ⟨_, rfl⟩
  rw [← ea2] at A2 D2 ⊢
  have zn2 := x2.1
  have g2 : n0 ≤ a2 := by omega
  replace U1 := U1.ext x2
  refine go_dup C (pc' := 64) at_63 rfl rfl ?_
  refine go_iconst C (pc' := 65) (z := 4) at_64 rfl rfl ?_
  refine go_callC C (pc' := 68) (k' := 8) (n' := 30) (argsL := [(.int (4 : Int32))]) (rest := [(.ref a2)]) (own_w hw (i := 4) rfl) (own_w hw (i := 5) rfl) (own_w hw (i := 3) rfl) (own_w hw (i := 6) rfl) rfl (rmInit Z a0 hw a2 hn2 n0 (by omega) g2 A2 (D2 (Or.inr (own_w hw (i := 12) rfl)) (ty := (.array .int)) (by decide)) (D2 (Or.inr (own_w hw (i := 14) rfl)) (ty := (.array .int)) (by decide)) (D2 (Or.inr (own_w hw (i := 20) rfl)) (ty := (.array .int)) (by decide)) (D2 (Or.inl (own_w hw (i := 32) rfl)) (ty := .int) (by decide))) at_65 rfl rfl (lenOf pd0 rfl) (by decide) (by decide) 1 rfl (by decide) rfl rfl (by decide) (by decide) rfl ?_
  rintro _ hc2 ⟨rfl, pa2, sa2, ha2, zz2, K2, U2⟩
  have zc2 := K2.1
  have lt2 := U2.lt
  replace U1 := U1.keep K2 (nnS (by omega) nin0) (nnS (by omega) nin0) (nnS (by omega) nin0) (nnS (by omega) nin0)
  have ge2 : n0 ≤ a2 ∧ n0 ≤ pa2 ∧ n0 ≤ sa2 ∧ n0 ≤ ha2 := ⟨by omega, by omega, by omega, by omega⟩
  show Go E room_1 n0 Q1 hc2 8 30 68 #[.val (.int a), .val (.int b), .val (.int c), .val (.int d), .val (.int e), .val (.int f), .val (.int (Int32.ofNat p0.val)), .val (.int (Int32.ofNat ((p0.val + 1 + d0.val) % 4))), .val (.int (Int32.ofNat p1.val)), .val (.int (Int32.ofNat q1.val)), .val (.int (Int32.ofNat p3.val)), .val (.int (Int32.ofNat q3.val)), .val (.int (Int32.ofNat xx.val)), .val (.ref a1), .unset, .unset, .unset, .unset, .unset, .unset] [(.ref a2)]
  refine go_astore C (pc' := 70) (Ls' := #[.val (.int a), .val (.int b), .val (.int c), .val (.int d), .val (.int e), .val (.int f), .val (.int (Int32.ofNat p0.val)), .val (.int (Int32.ofNat ((p0.val + 1 + d0.val) % 4))), .val (.int (Int32.ofNat p1.val)), .val (.int (Int32.ofNat q1.val)), .val (.int (Int32.ofNat p3.val)), .val (.int (Int32.ofNat q3.val)), .val (.int (Int32.ofNat xx.val)), .val (.ref a1), .val (.ref a2), .unset, .unset, .unset, .unset, .unset]) at_68 rfl rfl rfl ?_
  refine go_aload C (pc' := 72) at_70 rfl rfl rfl ?_
  refine go_iload C (pc' := 74) at_72 rfl rfl ?_
  refine go_iload C (pc' := 76) at_74 rfl rfl ?_
  refine go_callV C (pc' := 79) (k' := 8) (n' := 30) (argsL := [(.int (Int32.ofNat p0.val)), (.int (Int32.ofNat ((p0.val + 1 + d0.val) % 4)))]) (rest := []) (own_w hw (i := 21) rfl) (own_w hw (i := 22) rfl) (own_w hw (i := 24) rfl) (own_w hw (i := 23) rfl) (own_w hw (i := 3) rfl) (own_w hw (i := 25) rfl) (U1.1) (rmU Z a0 hw a1 pa1 sa1 ha1 initF u1 p0.val ((p0.val + 1 + d0.val) % 4) 1 hc2 n0 ge1 U1 e1) at_76 rfl rfl (lenOf pd3 rfl) (by decide) (by decide) 0 rfl (by decide) rfl rfl (by decide) (by decide) rfl ?_
  rintro _ hu1 ⟨rfl, Ku1, V1⟩
  clear U1
  have U1 := V1
  clear V1
  replace U2 := U2.keep Ku1 (nin4 (by omega) (by omega) (by omega) (by omega)) (nin4 (by omega) (by omega) (by omega) (by omega)) (nin4 (by omega) (by omega) (by omega) (by omega)) (nin4 (by omega) (by omega) (by omega) (by omega))
  show Go E room_1 n0 Q1 hu1 8 30 79 #[.val (.int a), .val (.int b), .val (.int c), .val (.int d), .val (.int e), .val (.int f), .val (.int (Int32.ofNat p0.val)), .val (.int (Int32.ofNat ((p0.val + 1 + d0.val) % 4))), .val (.int (Int32.ofNat p1.val)), .val (.int (Int32.ofNat q1.val)), .val (.int (Int32.ofNat p3.val)), .val (.int (Int32.ofNat q3.val)), .val (.int (Int32.ofNat xx.val)), .val (.ref a1), .val (.ref a2), .unset, .unset, .unset, .unset, .unset] [(.int (1 : Int32))]
  refine go_istore C (pc' := 81) (Ls' := #[.val (.int a), .val (.int b), .val (.int c), .val (.int d), .val (.int e), .val (.int f), .val (.int (Int32.ofNat p0.val)), .val (.int (Int32.ofNat ((p0.val + 1 + d0.val) % 4))), .val (.int (Int32.ofNat p1.val)), .val (.int (Int32.ofNat q1.val)), .val (.int (Int32.ofNat p3.val)), .val (.int (Int32.ofNat q3.val)), .val (.int (Int32.ofNat xx.val)), .val (.ref a1), .val (.ref a2), .val (.int (1 : Int32)), .unset, .unset, .unset, .unset]) at_79 rfl rfl ?_
  refine go_iload C (pc' := 83) at_81 rfl rfl ?_
  refine go_ifY C (pc' := 88) at_83 (by decide) (by decide) (by decide) ?_
  refine go_aload C (pc' := 90) at_88 rfl rfl rfl ?_
  refine go_iload C (pc' := 92) at_90 rfl rfl ?_
  refine go_iload C (pc' := 94) at_92 rfl rfl ?_
  rcases hsec with ⟨rfl, rfl⟩ | ⟨rfl, rfl⟩
  · skip
    refine go_callV C (pc' := 97) (k' := 8) (n' := 30) (argsL := [(.int (Int32.ofNat p1.val)), (.int (Int32.ofNat q1.val))]) (rest := []) (own_w hw (i := 21) rfl) (own_w hw (i := 22) rfl) (own_w hw (i := 24) rfl) (own_w hw (i := 23) rfl) (own_w hw (i := 3) rfl) (own_w hw (i := 25) rfl) (U1.1) (rmU Z a0 hw a1 pa1 sa1 ha1 u1 u2 p1.val q1.val 0 hu1 n0 ge1 U1 e2) at_94 rfl rfl (lenOf pd3 rfl) (by decide) (by decide) 0 rfl (by decide) rfl rfl (by decide) (by decide) rfl ?_
    rintro _ hu2 ⟨rfl, Ku2, V1⟩
    clear U1
    have U1 := V1
    clear V1
    replace U2 := U2.keep Ku2 (nin4 (by omega) (by omega) (by omega) (by omega)) (nin4 (by omega) (by omega) (by omega) (by omega)) (nin4 (by omega) (by omega) (by omega) (by omega)) (nin4 (by omega) (by omega) (by omega) (by omega))
    show Go E room_1 n0 Q1 hu2 8 30 97 #[.val (.int a), .val (.int b), .val (.int c), .val (.int d), .val (.int e), .val (.int f), .val (.int (Int32.ofNat p0.val)), .val (.int (Int32.ofNat ((p0.val + 1 + d0.val) % 4))), .val (.int (Int32.ofNat p1.val)), .val (.int (Int32.ofNat q1.val)), .val (.int (Int32.ofNat p3.val)), .val (.int (Int32.ofNat q3.val)), .val (.int (Int32.ofNat xx.val)), .val (.ref a1), .val (.ref a2), .val (.int (1 : Int32)), .unset, .unset, .unset, .unset] [(.int (0 : Int32))]
    refine go_istore C (pc' := 99) (Ls' := #[.val (.int a), .val (.int b), .val (.int c), .val (.int d), .val (.int e), .val (.int f), .val (.int (Int32.ofNat p0.val)), .val (.int (Int32.ofNat ((p0.val + 1 + d0.val) % 4))), .val (.int (Int32.ofNat p1.val)), .val (.int (Int32.ofNat q1.val)), .val (.int (Int32.ofNat p3.val)), .val (.int (Int32.ofNat q3.val)), .val (.int (Int32.ofNat xx.val)), .val (.ref a1), .val (.ref a2), .val (.int (1 : Int32)), .val (.int (0 : Int32)), .unset, .unset, .unset]) at_97 rfl rfl ?_
    refine go_aload C (pc' := 101) at_99 rfl rfl rfl ?_
    refine go_callV C (pc' := 104) (k' := 8) (n' := 30) (argsL := []) (rest := []) (own_w hw (i := 33) rfl) (own_w hw (i := 34) rfl) (own_w hw (i := 36) rfl) (own_w hw (i := 35) rfl) (own_w hw (i := 3) rfl) (own_w hw (i := 37) rfl) (U1.1) (rmD Z a0 hw a1 pa1 sa1 ha1 u2 u3 hu2 n0 ge1 U1 e3) at_101 rfl rfl (lenOf pd1 rfl) (by decide) (by decide) 0 rfl (by decide) rfl rfl (by decide) (by decide) rfl ?_
    rintro _ hu3 ⟨rfl, Ku3, V1⟩
    clear U1
    have U1 := V1
    clear V1
    replace U2 := U2.keep Ku3 (nin4 (by omega) (by omega) (by omega) (by omega)) (nin4 (by omega) (by omega) (by omega) (by omega)) (nin4 (by omega) (by omega) (by omega) (by omega)) (nin4 (by omega) (by omega) (by omega) (by omega))
    show Go E room_1 n0 Q1 hu3 8 30 104 #[.val (.int a), .val (.int b), .val (.int c), .val (.int d), .val (.int e), .val (.int f), .val (.int (Int32.ofNat p0.val)), .val (.int (Int32.ofNat ((p0.val + 1 + d0.val) % 4))), .val (.int (Int32.ofNat p1.val)), .val (.int (Int32.ofNat q1.val)), .val (.int (Int32.ofNat p3.val)), .val (.int (Int32.ofNat q3.val)), .val (.int (Int32.ofNat xx.val)), .val (.ref a1), .val (.ref a2), .val (.int (1 : Int32)), .val (.int (0 : Int32)), .unset, .unset, .unset] []
    refine go_iload C (pc' := 106) at_104 rfl rfl ?_
    refine go_ifY C (pc' := 119) at_106 (by decide) (by decide) (by decide) ?_
    refine go_aload C (pc' := 121) at_119 rfl rfl rfl ?_
    refine go_iload C (pc' := 123) at_121 rfl rfl ?_
    refine go_iload C (pc' := 125) at_123 rfl rfl ?_
    rcases hr3 with rfl | rfl
    · skip
      refine go_callV C (pc' := 128) (k' := 8) (n' := 30) (argsL := [(.int (Int32.ofNat p3.val)), (.int (Int32.ofNat q3.val))]) (rest := []) (own_w hw (i := 21) rfl) (own_w hw (i := 22) rfl) (own_w hw (i := 24) rfl) (own_w hw (i := 23) rfl) (own_w hw (i := 3) rfl) (own_w hw (i := 25) rfl) (U1.1) (rmU Z a0 hw a1 pa1 sa1 ha1 u3 u4 p3.val q3.val 0 hu3 n0 ge1 U1 e4) at_125 rfl rfl (lenOf pd3 rfl) (by decide) (by decide) 0 rfl (by decide) rfl rfl (by decide) (by decide) rfl ?_
      rintro _ hu4 ⟨rfl, Ku4, V1⟩
      clear U1
      have U1 := V1
      clear V1
      replace U2 := U2.keep Ku4 (nin4 (by omega) (by omega) (by omega) (by omega)) (nin4 (by omega) (by omega) (by omega) (by omega)) (nin4 (by omega) (by omega) (by omega) (by omega)) (nin4 (by omega) (by omega) (by omega) (by omega))
      show Go E room_1 n0 Q1 hu4 8 30 128 #[.val (.int a), .val (.int b), .val (.int c), .val (.int d), .val (.int e), .val (.int f), .val (.int (Int32.ofNat p0.val)), .val (.int (Int32.ofNat ((p0.val + 1 + d0.val) % 4))), .val (.int (Int32.ofNat p1.val)), .val (.int (Int32.ofNat q1.val)), .val (.int (Int32.ofNat p3.val)), .val (.int (Int32.ofNat q3.val)), .val (.int (Int32.ofNat xx.val)), .val (.ref a1), .val (.ref a2), .val (.int (1 : Int32)), .val (.int (0 : Int32)), .unset, .unset, .unset] [(.int (0 : Int32))]
      refine go_istore C (pc' := 130) (Ls' := #[.val (.int a), .val (.int b), .val (.int c), .val (.int d), .val (.int e), .val (.int f), .val (.int (Int32.ofNat p0.val)), .val (.int (Int32.ofNat ((p0.val + 1 + d0.val) % 4))), .val (.int (Int32.ofNat p1.val)), .val (.int (Int32.ofNat q1.val)), .val (.int (Int32.ofNat p3.val)), .val (.int (Int32.ofNat q3.val)), .val (.int (Int32.ofNat xx.val)), .val (.ref a1), .val (.ref a2), .val (.int (1 : Int32)), .val (.int (0 : Int32)), .val (.int (0 : Int32)), .unset, .unset]) at_128 rfl rfl ?_
      refine go_aload C (pc' := 132) at_130 rfl rfl rfl ?_
      refine go_iload C (pc' := 134) at_132 rfl rfl ?_
      refine go_iload C (pc' := 136) at_134 rfl rfl ?_
      refine go_callV C (pc' := 139) (k' := 8) (n' := 30) (argsL := [(.int (Int32.ofNat p3.val)), (.int (Int32.ofNat q3.val))]) (rest := []) (own_w hw (i := 21) rfl) (own_w hw (i := 22) rfl) (own_w hw (i := 24) rfl) (own_w hw (i := 23) rfl) (own_w hw (i := 3) rfl) (own_w hw (i := 25) rfl) (U2.1) (rmU Z a0 hw a2 pa2 sa2 ha2 initF w2 p3.val q3.val 0 hu4 n0 ge2 U2 e5) at_136 rfl rfl (lenOf pd3 rfl) (by decide) (by decide) 0 rfl (by decide) rfl rfl (by decide) (by decide) rfl ?_
      rintro _ hu5 ⟨rfl, Ku5, V2⟩
      clear U2
      have U2 := V2
      clear V2
      replace U1 := U1.keep Ku5 (nin4 (by omega) (by omega) (by omega) (by omega)) (nin4 (by omega) (by omega) (by omega) (by omega)) (nin4 (by omega) (by omega) (by omega) (by omega)) (nin4 (by omega) (by omega) (by omega) (by omega))
      show Go E room_1 n0 Q1 hu5 8 30 139 #[.val (.int a), .val (.int b), .val (.int c), .val (.int d), .val (.int e), .val (.int f), .val (.int (Int32.ofNat p0.val)), .val (.int (Int32.ofNat ((p0.val + 1 + d0.val) % 4))), .val (.int (Int32.ofNat p1.val)), .val (.int (Int32.ofNat q1.val)), .val (.int (Int32.ofNat p3.val)), .val (.int (Int32.ofNat q3.val)), .val (.int (Int32.ofNat xx.val)), .val (.ref a1), .val (.ref a2), .val (.int (1 : Int32)), .val (.int (0 : Int32)), .val (.int (0 : Int32)), .unset, .unset] [(.int (0 : Int32))]
      refine go_istore C (pc' := 141) (Ls' := #[.val (.int a), .val (.int b), .val (.int c), .val (.int d), .val (.int e), .val (.int f), .val (.int (Int32.ofNat p0.val)), .val (.int (Int32.ofNat ((p0.val + 1 + d0.val) % 4))), .val (.int (Int32.ofNat p1.val)), .val (.int (Int32.ofNat q1.val)), .val (.int (Int32.ofNat p3.val)), .val (.int (Int32.ofNat q3.val)), .val (.int (Int32.ofNat xx.val)), .val (.ref a1), .val (.ref a2), .val (.int (1 : Int32)), .val (.int (0 : Int32)), .val (.int (0 : Int32)), .val (.int (0 : Int32)), .unset]) at_139 rfl rfl ?_
      refine go_iload C (pc' := 143) at_141 rfl rfl ?_
      refine go_ifY C (pc' := 150) at_143 (by decide) (by decide) (by decide) ?_
      refine go_iconst C (pc' := 151) (z := 0) at_150 rfl rfl ?_
      refine go_iload C (pc' := 153) at_151 rfl rfl ?_
      refine go_ifY C (pc' := 160) at_153 (by decide) (by decide) (by decide) ?_
      refine go_iconst C (pc' := 161) (z := 0) at_160 rfl rfl ?_
      refine go_iadd C (pc' := 162) at_161 rfl ?_
      refine go_istore C (pc' := 164) (Ls' := #[.val (.int a), .val (.int b), .val (.int c), .val (.int d), .val (.int e), .val (.int f), .val (.int (Int32.ofNat p0.val)), .val (.int (Int32.ofNat ((p0.val + 1 + d0.val) % 4))), .val (.int (Int32.ofNat p1.val)), .val (.int (Int32.ofNat q1.val)), .val (.int (Int32.ofNat p3.val)), .val (.int (Int32.ofNat q3.val)), .val (.int (Int32.ofNat xx.val)), .val (.ref a1), .val (.ref a2), .val (.int (1 : Int32)), .val (.int (0 : Int32)), .val (.int (0 : Int32)), .val (.int (0 : Int32)), .val (.int ((0 : Int32) + (0 : Int32)))]) at_162 rfl rfl ?_
      refine go_iload C (pc' := 166) at_164 rfl rfl ?_
      refine go_iload C (pc' := 168) at_166 rfl rfl ?_
      refine go_icN C (pc' := 171) at_168 (teq rfl).2 rfl ?_
      refine go_aload C (pc' := 173) at_171 rfl rfl rfl ?_
      refine go_iload C (pc' := 175) at_173 rfl rfl ?_
      refine go_callV C (pc' := 178) (k' := 8) (n' := 30) (argsL := [(.int (Int32.ofNat xx.val))]) (rest := []) (own_w hw (i := 38) rfl) (own_w hw (i := 27) rfl) (own_w hw (i := 29) rfl) (own_w hw (i := 28) rfl) (own_w hw (i := 3) rfl) (own_w hw (i := 30) rfl) (U1.1) (rmFind Z a0 hw a1 pa1 sa1 ha1 u4 xx.val y hu5 n0 U1 e6) at_175 rfl rfl (lenOf pd4 rfl) (by decide) (by decide) 0 rfl (by decide) rfl rfl (by decide) (by decide) rfl ?_
      rintro _ _ ⟨rfl, rfl⟩
      show Go E room_1 n0 Q1 hu5 8 30 178 #[.val (.int a), .val (.int b), .val (.int c), .val (.int d), .val (.int e), .val (.int f), .val (.int (Int32.ofNat p0.val)), .val (.int (Int32.ofNat ((p0.val + 1 + d0.val) % 4))), .val (.int (Int32.ofNat p1.val)), .val (.int (Int32.ofNat q1.val)), .val (.int (Int32.ofNat p3.val)), .val (.int (Int32.ofNat q3.val)), .val (.int (Int32.ofNat xx.val)), .val (.ref a1), .val (.ref a2), .val (.int (1 : Int32)), .val (.int (0 : Int32)), .val (.int (0 : Int32)), .val (.int (0 : Int32)), .val (.int ((0 : Int32) + (0 : Int32)))] [(.int (Int32.ofNat y))]
      refine go_aload C (pc' := 180) at_178 rfl rfl rfl ?_
      refine go_iload C (pc' := 182) at_180 rfl rfl ?_
      refine go_callV C (pc' := 185) (k' := 8) (n' := 30) (argsL := [(.int (Int32.ofNat xx.val))]) (rest := [(.int (Int32.ofNat y))]) (own_w hw (i := 38) rfl) (own_w hw (i := 27) rfl) (own_w hw (i := 29) rfl) (own_w hw (i := 28) rfl) (own_w hw (i := 3) rfl) (own_w hw (i := 30) rfl) (U2.1) (rmFind Z a0 hw a2 pa2 sa2 ha2 w2 xx.val y hu5 n0 U2 e7) at_182 rfl rfl (lenOf pd4 rfl) (by decide) (by decide) 1 rfl (by decide) rfl rfl (by decide) (by decide) rfl ?_
      rintro _ _ ⟨rfl, rfl⟩
      show Go E room_1 n0 Q1 hu5 8 30 185 #[.val (.int a), .val (.int b), .val (.int c), .val (.int d), .val (.int e), .val (.int f), .val (.int (Int32.ofNat p0.val)), .val (.int (Int32.ofNat ((p0.val + 1 + d0.val) % 4))), .val (.int (Int32.ofNat p1.val)), .val (.int (Int32.ofNat q1.val)), .val (.int (Int32.ofNat p3.val)), .val (.int (Int32.ofNat q3.val)), .val (.int (Int32.ofNat xx.val)), .val (.ref a1), .val (.ref a2), .val (.int (1 : Int32)), .val (.int (0 : Int32)), .val (.int (0 : Int32)), .val (.int (0 : Int32)), .val (.int ((0 : Int32) + (0 : Int32)))] [(.int (Int32.ofNat y)), (.int (Int32.ofNat y))]
      refine go_icN C (pc' := 188) at_185 (teq rfl).2 rfl ?_
      refine go_aload C (pc' := 190) at_188 rfl rfl rfl ?_
      refine go_callV C (pc' := 193) (k' := 8) (n' := 30) (argsL := []) (rest := []) (own_w hw (i := 39) rfl) (own_w hw (i := 40) rfl) (own_w hw (i := 42) rfl) (own_w hw (i := 41) rfl) (own_w hw (i := 3) rfl) (own_w hw (i := 43) rfl) (U1.1) (rmSets Z a0 hw a1 pa1 sa1 ha1 u4 hu5 n0 U1 (by omega)) at_190 rfl rfl (lenOf pd5 rfl) (by decide) (by decide) 0 rfl (by decide) rfl rfl (by decide) (by decide) rfl ?_
      rintro _ _ ⟨rfl, rfl⟩
      rw [hlen, hun]
      show Go E room_1 n0 Q1 hu5 8 30 193 #[.val (.int a), .val (.int b), .val (.int c), .val (.int d), .val (.int e), .val (.int f), .val (.int (Int32.ofNat p0.val)), .val (.int (Int32.ofNat ((p0.val + 1 + d0.val) % 4))), .val (.int (Int32.ofNat p1.val)), .val (.int (Int32.ofNat q1.val)), .val (.int (Int32.ofNat p3.val)), .val (.int (Int32.ofNat q3.val)), .val (.int (Int32.ofNat xx.val)), .val (.ref a1), .val (.ref a2), .val (.int (1 : Int32)), .val (.int (0 : Int32)), .val (.int (0 : Int32)), .val (.int (0 : Int32)), .val (.int ((0 : Int32) + (0 : Int32)))] [(.int (4 : Int32))]
      refine go_iconst C (pc' := 194) (z := 4) at_193 rfl rfl ?_
      refine go_iload C (pc' := 196) at_194 rfl rfl ?_
      refine go_isub C (pc' := 197) at_196 rfl ?_
      refine go_icN C (pc' := 200) at_197 (teq (by decide)).2 rfl ?_
      refine go_iconst C (pc' := 201) (z := 1) at_200 rfl rfl ?_
      refine go_goto C (pc' := 205) at_201 (by decide) (by decide) ?_
      refine go_retZ C at_205 (by decide) (by decide) (by decide) ?_
      exact rfl
    · skip
      refine go_callV C (pc' := 128) (k' := 8) (n' := 30) (argsL := [(.int (Int32.ofNat p3.val)), (.int (Int32.ofNat q3.val))]) (rest := []) (own_w hw (i := 21) rfl) (own_w hw (i := 22) rfl) (own_w hw (i := 24) rfl) (own_w hw (i := 23) rfl) (own_w hw (i := 3) rfl) (own_w hw (i := 25) rfl) (U1.1) (rmU Z a0 hw a1 pa1 sa1 ha1 u3 u4 p3.val q3.val 1 hu3 n0 ge1 U1 e4) at_125 rfl rfl (lenOf pd3 rfl) (by decide) (by decide) 0 rfl (by decide) rfl rfl (by decide) (by decide) rfl ?_
      rintro _ hu6 ⟨rfl, Ku6, V1⟩
      clear U1
      have U1 := V1
      clear V1
      replace U2 := U2.keep Ku6 (nin4 (by omega) (by omega) (by omega) (by omega)) (nin4 (by omega) (by omega) (by omega) (by omega)) (nin4 (by omega) (by omega) (by omega) (by omega)) (nin4 (by omega) (by omega) (by omega) (by omega))
      show Go E room_1 n0 Q1 hu6 8 30 128 #[.val (.int a), .val (.int b), .val (.int c), .val (.int d), .val (.int e), .val (.int f), .val (.int (Int32.ofNat p0.val)), .val (.int (Int32.ofNat ((p0.val + 1 + d0.val) % 4))), .val (.int (Int32.ofNat p1.val)), .val (.int (Int32.ofNat q1.val)), .val (.int (Int32.ofNat p3.val)), .val (.int (Int32.ofNat q3.val)), .val (.int (Int32.ofNat xx.val)), .val (.ref a1), .val (.ref a2), .val (.int (1 : Int32)), .val (.int (0 : Int32)), .unset, .unset, .unset] [(.int (1 : Int32))]
      refine go_istore C (pc' := 130) (Ls' := #[.val (.int a), .val (.int b), .val (.int c), .val (.int d), .val (.int e), .val (.int f), .val (.int (Int32.ofNat p0.val)), .val (.int (Int32.ofNat ((p0.val + 1 + d0.val) % 4))), .val (.int (Int32.ofNat p1.val)), .val (.int (Int32.ofNat q1.val)), .val (.int (Int32.ofNat p3.val)), .val (.int (Int32.ofNat q3.val)), .val (.int (Int32.ofNat xx.val)), .val (.ref a1), .val (.ref a2), .val (.int (1 : Int32)), .val (.int (0 : Int32)), .val (.int (1 : Int32)), .unset, .unset]) at_128 rfl rfl ?_
      refine go_aload C (pc' := 132) at_130 rfl rfl rfl ?_
      refine go_iload C (pc' := 134) at_132 rfl rfl ?_
      refine go_iload C (pc' := 136) at_134 rfl rfl ?_
      refine go_callV C (pc' := 139) (k' := 8) (n' := 30) (argsL := [(.int (Int32.ofNat p3.val)), (.int (Int32.ofNat q3.val))]) (rest := []) (own_w hw (i := 21) rfl) (own_w hw (i := 22) rfl) (own_w hw (i := 24) rfl) (own_w hw (i := 23) rfl) (own_w hw (i := 3) rfl) (own_w hw (i := 25) rfl) (U2.1) (rmU Z a0 hw a2 pa2 sa2 ha2 initF w2 p3.val q3.val 1 hu6 n0 ge2 U2 e5) at_136 rfl rfl (lenOf pd3 rfl) (by decide) (by decide) 0 rfl (by decide) rfl rfl (by decide) (by decide) rfl ?_
      rintro _ hu7 ⟨rfl, Ku7, V2⟩
      clear U2
      have U2 := V2
      clear V2
      replace U1 := U1.keep Ku7 (nin4 (by omega) (by omega) (by omega) (by omega)) (nin4 (by omega) (by omega) (by omega) (by omega)) (nin4 (by omega) (by omega) (by omega) (by omega)) (nin4 (by omega) (by omega) (by omega) (by omega))
      show Go E room_1 n0 Q1 hu7 8 30 139 #[.val (.int a), .val (.int b), .val (.int c), .val (.int d), .val (.int e), .val (.int f), .val (.int (Int32.ofNat p0.val)), .val (.int (Int32.ofNat ((p0.val + 1 + d0.val) % 4))), .val (.int (Int32.ofNat p1.val)), .val (.int (Int32.ofNat q1.val)), .val (.int (Int32.ofNat p3.val)), .val (.int (Int32.ofNat q3.val)), .val (.int (Int32.ofNat xx.val)), .val (.ref a1), .val (.ref a2), .val (.int (1 : Int32)), .val (.int (0 : Int32)), .val (.int (1 : Int32)), .unset, .unset] [(.int (1 : Int32))]
      refine go_istore C (pc' := 141) (Ls' := #[.val (.int a), .val (.int b), .val (.int c), .val (.int d), .val (.int e), .val (.int f), .val (.int (Int32.ofNat p0.val)), .val (.int (Int32.ofNat ((p0.val + 1 + d0.val) % 4))), .val (.int (Int32.ofNat p1.val)), .val (.int (Int32.ofNat q1.val)), .val (.int (Int32.ofNat p3.val)), .val (.int (Int32.ofNat q3.val)), .val (.int (Int32.ofNat xx.val)), .val (.ref a1), .val (.ref a2), .val (.int (1 : Int32)), .val (.int (0 : Int32)), .val (.int (1 : Int32)), .val (.int (1 : Int32)), .unset]) at_139 rfl rfl ?_
      refine go_iload C (pc' := 143) at_141 rfl rfl ?_
      refine go_ifY C (pc' := 150) at_143 (by decide) (by decide) (by decide) ?_
      refine go_iconst C (pc' := 151) (z := 0) at_150 rfl rfl ?_
      refine go_iload C (pc' := 153) at_151 rfl rfl ?_
      refine go_ifN C (pc' := 156) at_153 (by decide) rfl ?_
      refine go_iconst C (pc' := 157) (z := 1) at_156 rfl rfl ?_
      refine go_goto C (pc' := 161) at_157 (by decide) (by decide) ?_
      refine go_iadd C (pc' := 162) at_161 rfl ?_
      refine go_istore C (pc' := 164) (Ls' := #[.val (.int a), .val (.int b), .val (.int c), .val (.int d), .val (.int e), .val (.int f), .val (.int (Int32.ofNat p0.val)), .val (.int (Int32.ofNat ((p0.val + 1 + d0.val) % 4))), .val (.int (Int32.ofNat p1.val)), .val (.int (Int32.ofNat q1.val)), .val (.int (Int32.ofNat p3.val)), .val (.int (Int32.ofNat q3.val)), .val (.int (Int32.ofNat xx.val)), .val (.ref a1), .val (.ref a2), .val (.int (1 : Int32)), .val (.int (0 : Int32)), .val (.int (1 : Int32)), .val (.int (1 : Int32)), .val (.int ((0 : Int32) + (1 : Int32)))]) at_162 rfl rfl ?_
      refine go_iload C (pc' := 166) at_164 rfl rfl ?_
      refine go_iload C (pc' := 168) at_166 rfl rfl ?_
      refine go_icN C (pc' := 171) at_168 (teq rfl).2 rfl ?_
      refine go_aload C (pc' := 173) at_171 rfl rfl rfl ?_
      refine go_iload C (pc' := 175) at_173 rfl rfl ?_
      refine go_callV C (pc' := 178) (k' := 8) (n' := 30) (argsL := [(.int (Int32.ofNat xx.val))]) (rest := []) (own_w hw (i := 38) rfl) (own_w hw (i := 27) rfl) (own_w hw (i := 29) rfl) (own_w hw (i := 28) rfl) (own_w hw (i := 3) rfl) (own_w hw (i := 30) rfl) (U1.1) (rmFind Z a0 hw a1 pa1 sa1 ha1 u4 xx.val y hu7 n0 U1 e6) at_175 rfl rfl (lenOf pd4 rfl) (by decide) (by decide) 0 rfl (by decide) rfl rfl (by decide) (by decide) rfl ?_
      rintro _ _ ⟨rfl, rfl⟩
      show Go E room_1 n0 Q1 hu7 8 30 178 #[.val (.int a), .val (.int b), .val (.int c), .val (.int d), .val (.int e), .val (.int f), .val (.int (Int32.ofNat p0.val)), .val (.int (Int32.ofNat ((p0.val + 1 + d0.val) % 4))), .val (.int (Int32.ofNat p1.val)), .val (.int (Int32.ofNat q1.val)), .val (.int (Int32.ofNat p3.val)), .val (.int (Int32.ofNat q3.val)), .val (.int (Int32.ofNat xx.val)), .val (.ref a1), .val (.ref a2), .val (.int (1 : Int32)), .val (.int (0 : Int32)), .val (.int (1 : Int32)), .val (.int (1 : Int32)), .val (.int ((0 : Int32) + (1 : Int32)))] [(.int (Int32.ofNat y))]
      refine go_aload C (pc' := 180) at_178 rfl rfl rfl ?_
      refine go_iload C (pc' := 182) at_180 rfl rfl ?_
      refine go_callV C (pc' := 185) (k' := 8) (n' := 30) (argsL := [(.int (Int32.ofNat xx.val))]) (rest := [(.int (Int32.ofNat y))]) (own_w hw (i := 38) rfl) (own_w hw (i := 27) rfl) (own_w hw (i := 29) rfl) (own_w hw (i := 28) rfl) (own_w hw (i := 3) rfl) (own_w hw (i := 30) rfl) (U2.1) (rmFind Z a0 hw a2 pa2 sa2 ha2 w2 xx.val y hu7 n0 U2 e7) at_182 rfl rfl (lenOf pd4 rfl) (by decide) (by decide) 1 rfl (by decide) rfl rfl (by decide) (by decide) rfl ?_
      rintro _ _ ⟨rfl, rfl⟩
      show Go E room_1 n0 Q1 hu7 8 30 185 #[.val (.int a), .val (.int b), .val (.int c), .val (.int d), .val (.int e), .val (.int f), .val (.int (Int32.ofNat p0.val)), .val (.int (Int32.ofNat ((p0.val + 1 + d0.val) % 4))), .val (.int (Int32.ofNat p1.val)), .val (.int (Int32.ofNat q1.val)), .val (.int (Int32.ofNat p3.val)), .val (.int (Int32.ofNat q3.val)), .val (.int (Int32.ofNat xx.val)), .val (.ref a1), .val (.ref a2), .val (.int (1 : Int32)), .val (.int (0 : Int32)), .val (.int (1 : Int32)), .val (.int (1 : Int32)), .val (.int ((0 : Int32) + (1 : Int32)))] [(.int (Int32.ofNat y)), (.int (Int32.ofNat y))]
      refine go_icN C (pc' := 188) at_185 (teq rfl).2 rfl ?_
      refine go_aload C (pc' := 190) at_188 rfl rfl rfl ?_
      refine go_callV C (pc' := 193) (k' := 8) (n' := 30) (argsL := []) (rest := []) (own_w hw (i := 39) rfl) (own_w hw (i := 40) rfl) (own_w hw (i := 42) rfl) (own_w hw (i := 41) rfl) (own_w hw (i := 3) rfl) (own_w hw (i := 43) rfl) (U1.1) (rmSets Z a0 hw a1 pa1 sa1 ha1 u4 hu7 n0 U1 (by omega)) at_190 rfl rfl (lenOf pd5 rfl) (by decide) (by decide) 0 rfl (by decide) rfl rfl (by decide) (by decide) rfl ?_
      rintro _ _ ⟨rfl, rfl⟩
      rw [hlen, hun]
      show Go E room_1 n0 Q1 hu7 8 30 193 #[.val (.int a), .val (.int b), .val (.int c), .val (.int d), .val (.int e), .val (.int f), .val (.int (Int32.ofNat p0.val)), .val (.int (Int32.ofNat ((p0.val + 1 + d0.val) % 4))), .val (.int (Int32.ofNat p1.val)), .val (.int (Int32.ofNat q1.val)), .val (.int (Int32.ofNat p3.val)), .val (.int (Int32.ofNat q3.val)), .val (.int (Int32.ofNat xx.val)), .val (.ref a1), .val (.ref a2), .val (.int (1 : Int32)), .val (.int (0 : Int32)), .val (.int (1 : Int32)), .val (.int (1 : Int32)), .val (.int ((0 : Int32) + (1 : Int32)))] [(.int (3 : Int32))]
      refine go_iconst C (pc' := 194) (z := 4) at_193 rfl rfl ?_
      refine go_iload C (pc' := 196) at_194 rfl rfl ?_
      refine go_isub C (pc' := 197) at_196 rfl ?_
      refine go_icN C (pc' := 200) at_197 (teq (by decide)).2 rfl ?_
      refine go_iconst C (pc' := 201) (z := 1) at_200 rfl rfl ?_
      refine go_goto C (pc' := 205) at_201 (by decide) (by decide) ?_
      refine go_retZ C at_205 (by decide) (by decide) (by decide) ?_
      exact rfl
  · skip
    refine go_callV C (pc' := 97) (k' := 8) (n' := 30) (argsL := [(.int (Int32.ofNat p1.val)), (.int (Int32.ofNat q1.val))]) (rest := []) (own_w hw (i := 21) rfl) (own_w hw (i := 22) rfl) (own_w hw (i := 24) rfl) (own_w hw (i := 23) rfl) (own_w hw (i := 3) rfl) (own_w hw (i := 25) rfl) (U1.1) (rmU Z a0 hw a1 pa1 sa1 ha1 u1 u2 p1.val q1.val 1 hu1 n0 ge1 U1 e2) at_94 rfl rfl (lenOf pd3 rfl) (by decide) (by decide) 0 rfl (by decide) rfl rfl (by decide) (by decide) rfl ?_
    rintro _ hu8 ⟨rfl, Ku8, V1⟩
    clear U1
    have U1 := V1
    clear V1
    replace U2 := U2.keep Ku8 (nin4 (by omega) (by omega) (by omega) (by omega)) (nin4 (by omega) (by omega) (by omega) (by omega)) (nin4 (by omega) (by omega) (by omega) (by omega)) (nin4 (by omega) (by omega) (by omega) (by omega))
    show Go E room_1 n0 Q1 hu8 8 30 97 #[.val (.int a), .val (.int b), .val (.int c), .val (.int d), .val (.int e), .val (.int f), .val (.int (Int32.ofNat p0.val)), .val (.int (Int32.ofNat ((p0.val + 1 + d0.val) % 4))), .val (.int (Int32.ofNat p1.val)), .val (.int (Int32.ofNat q1.val)), .val (.int (Int32.ofNat p3.val)), .val (.int (Int32.ofNat q3.val)), .val (.int (Int32.ofNat xx.val)), .val (.ref a1), .val (.ref a2), .val (.int (1 : Int32)), .unset, .unset, .unset, .unset] [(.int (1 : Int32))]
    refine go_istore C (pc' := 99) (Ls' := #[.val (.int a), .val (.int b), .val (.int c), .val (.int d), .val (.int e), .val (.int f), .val (.int (Int32.ofNat p0.val)), .val (.int (Int32.ofNat ((p0.val + 1 + d0.val) % 4))), .val (.int (Int32.ofNat p1.val)), .val (.int (Int32.ofNat q1.val)), .val (.int (Int32.ofNat p3.val)), .val (.int (Int32.ofNat q3.val)), .val (.int (Int32.ofNat xx.val)), .val (.ref a1), .val (.ref a2), .val (.int (1 : Int32)), .val (.int (1 : Int32)), .unset, .unset, .unset]) at_97 rfl rfl ?_
    refine go_aload C (pc' := 101) at_99 rfl rfl rfl ?_
    refine go_callV C (pc' := 104) (k' := 8) (n' := 30) (argsL := []) (rest := []) (own_w hw (i := 33) rfl) (own_w hw (i := 34) rfl) (own_w hw (i := 36) rfl) (own_w hw (i := 35) rfl) (own_w hw (i := 3) rfl) (own_w hw (i := 37) rfl) (U1.1) (rmD Z a0 hw a1 pa1 sa1 ha1 u2 u3 hu8 n0 ge1 U1 e3) at_101 rfl rfl (lenOf pd1 rfl) (by decide) (by decide) 0 rfl (by decide) rfl rfl (by decide) (by decide) rfl ?_
    rintro _ hu9 ⟨rfl, Ku9, V1⟩
    clear U1
    have U1 := V1
    clear V1
    replace U2 := U2.keep Ku9 (nin4 (by omega) (by omega) (by omega) (by omega)) (nin4 (by omega) (by omega) (by omega) (by omega)) (nin4 (by omega) (by omega) (by omega) (by omega)) (nin4 (by omega) (by omega) (by omega) (by omega))
    show Go E room_1 n0 Q1 hu9 8 30 104 #[.val (.int a), .val (.int b), .val (.int c), .val (.int d), .val (.int e), .val (.int f), .val (.int (Int32.ofNat p0.val)), .val (.int (Int32.ofNat ((p0.val + 1 + d0.val) % 4))), .val (.int (Int32.ofNat p1.val)), .val (.int (Int32.ofNat q1.val)), .val (.int (Int32.ofNat p3.val)), .val (.int (Int32.ofNat q3.val)), .val (.int (Int32.ofNat xx.val)), .val (.ref a1), .val (.ref a2), .val (.int (1 : Int32)), .val (.int (1 : Int32)), .unset, .unset, .unset] []
    refine go_iload C (pc' := 106) at_104 rfl rfl ?_
    refine go_ifN C (pc' := 109) at_106 (by decide) rfl ?_
    refine go_aload C (pc' := 111) at_109 rfl rfl rfl ?_
    refine go_iload C (pc' := 113) at_111 rfl rfl ?_
    refine go_iload C (pc' := 115) at_113 rfl rfl ?_
    refine go_callV C (pc' := 118) (k' := 8) (n' := 30) (argsL := [(.int (Int32.ofNat p0.val)), (.int (Int32.ofNat ((p0.val + 1 + d0.val) % 4)))]) (rest := []) (own_w hw (i := 21) rfl) (own_w hw (i := 22) rfl) (own_w hw (i := 24) rfl) (own_w hw (i := 23) rfl) (own_w hw (i := 3) rfl) (own_w hw (i := 25) rfl) (U2.1) (rmU Z a0 hw a2 pa2 sa2 ha2 initF u1 p0.val ((p0.val + 1 + d0.val) % 4) 1 hu9 n0 ge2 U2 e1) at_115 rfl rfl (lenOf pd3 rfl) (by decide) (by decide) 0 rfl (by decide) rfl rfl (by decide) (by decide) rfl ?_
    rintro _ hu10 ⟨rfl, Ku10, V2⟩
    clear U2
    have U2 := V2
    clear V2
    replace U1 := U1.keep Ku10 (nin4 (by omega) (by omega) (by omega) (by omega)) (nin4 (by omega) (by omega) (by omega) (by omega)) (nin4 (by omega) (by omega) (by omega) (by omega)) (nin4 (by omega) (by omega) (by omega) (by omega))
    show Go E room_1 n0 Q1 hu10 8 30 118 #[.val (.int a), .val (.int b), .val (.int c), .val (.int d), .val (.int e), .val (.int f), .val (.int (Int32.ofNat p0.val)), .val (.int (Int32.ofNat ((p0.val + 1 + d0.val) % 4))), .val (.int (Int32.ofNat p1.val)), .val (.int (Int32.ofNat q1.val)), .val (.int (Int32.ofNat p3.val)), .val (.int (Int32.ofNat q3.val)), .val (.int (Int32.ofNat xx.val)), .val (.ref a1), .val (.ref a2), .val (.int (1 : Int32)), .val (.int (1 : Int32)), .unset, .unset, .unset] [(.int (1 : Int32))]
    refine go_pop C (pc' := 119) at_118 rfl rfl ?_
    refine go_aload C (pc' := 121) at_119 rfl rfl rfl ?_
    refine go_iload C (pc' := 123) at_121 rfl rfl ?_
    refine go_iload C (pc' := 125) at_123 rfl rfl ?_
    rcases hr3 with rfl | rfl
    · skip
      refine go_callV C (pc' := 128) (k' := 8) (n' := 30) (argsL := [(.int (Int32.ofNat p3.val)), (.int (Int32.ofNat q3.val))]) (rest := []) (own_w hw (i := 21) rfl) (own_w hw (i := 22) rfl) (own_w hw (i := 24) rfl) (own_w hw (i := 23) rfl) (own_w hw (i := 3) rfl) (own_w hw (i := 25) rfl) (U1.1) (rmU Z a0 hw a1 pa1 sa1 ha1 u3 u4 p3.val q3.val 0 hu10 n0 ge1 U1 e4) at_125 rfl rfl (lenOf pd3 rfl) (by decide) (by decide) 0 rfl (by decide) rfl rfl (by decide) (by decide) rfl ?_
      rintro _ hu11 ⟨rfl, Ku11, V1⟩
      clear U1
      have U1 := V1
      clear V1
      replace U2 := U2.keep Ku11 (nin4 (by omega) (by omega) (by omega) (by omega)) (nin4 (by omega) (by omega) (by omega) (by omega)) (nin4 (by omega) (by omega) (by omega) (by omega)) (nin4 (by omega) (by omega) (by omega) (by omega))
      show Go E room_1 n0 Q1 hu11 8 30 128 #[.val (.int a), .val (.int b), .val (.int c), .val (.int d), .val (.int e), .val (.int f), .val (.int (Int32.ofNat p0.val)), .val (.int (Int32.ofNat ((p0.val + 1 + d0.val) % 4))), .val (.int (Int32.ofNat p1.val)), .val (.int (Int32.ofNat q1.val)), .val (.int (Int32.ofNat p3.val)), .val (.int (Int32.ofNat q3.val)), .val (.int (Int32.ofNat xx.val)), .val (.ref a1), .val (.ref a2), .val (.int (1 : Int32)), .val (.int (1 : Int32)), .unset, .unset, .unset] [(.int (0 : Int32))]
      refine go_istore C (pc' := 130) (Ls' := #[.val (.int a), .val (.int b), .val (.int c), .val (.int d), .val (.int e), .val (.int f), .val (.int (Int32.ofNat p0.val)), .val (.int (Int32.ofNat ((p0.val + 1 + d0.val) % 4))), .val (.int (Int32.ofNat p1.val)), .val (.int (Int32.ofNat q1.val)), .val (.int (Int32.ofNat p3.val)), .val (.int (Int32.ofNat q3.val)), .val (.int (Int32.ofNat xx.val)), .val (.ref a1), .val (.ref a2), .val (.int (1 : Int32)), .val (.int (1 : Int32)), .val (.int (0 : Int32)), .unset, .unset]) at_128 rfl rfl ?_
      refine go_aload C (pc' := 132) at_130 rfl rfl rfl ?_
      refine go_iload C (pc' := 134) at_132 rfl rfl ?_
      refine go_iload C (pc' := 136) at_134 rfl rfl ?_
      refine go_callV C (pc' := 139) (k' := 8) (n' := 30) (argsL := [(.int (Int32.ofNat p3.val)), (.int (Int32.ofNat q3.val))]) (rest := []) (own_w hw (i := 21) rfl) (own_w hw (i := 22) rfl) (own_w hw (i := 24) rfl) (own_w hw (i := 23) rfl) (own_w hw (i := 3) rfl) (own_w hw (i := 25) rfl) (U2.1) (rmU Z a0 hw a2 pa2 sa2 ha2 u1 w2 p3.val q3.val 0 hu11 n0 ge2 U2 e5) at_136 rfl rfl (lenOf pd3 rfl) (by decide) (by decide) 0 rfl (by decide) rfl rfl (by decide) (by decide) rfl ?_
      rintro _ hu12 ⟨rfl, Ku12, V2⟩
      clear U2
      have U2 := V2
      clear V2
      replace U1 := U1.keep Ku12 (nin4 (by omega) (by omega) (by omega) (by omega)) (nin4 (by omega) (by omega) (by omega) (by omega)) (nin4 (by omega) (by omega) (by omega) (by omega)) (nin4 (by omega) (by omega) (by omega) (by omega))
      show Go E room_1 n0 Q1 hu12 8 30 139 #[.val (.int a), .val (.int b), .val (.int c), .val (.int d), .val (.int e), .val (.int f), .val (.int (Int32.ofNat p0.val)), .val (.int (Int32.ofNat ((p0.val + 1 + d0.val) % 4))), .val (.int (Int32.ofNat p1.val)), .val (.int (Int32.ofNat q1.val)), .val (.int (Int32.ofNat p3.val)), .val (.int (Int32.ofNat q3.val)), .val (.int (Int32.ofNat xx.val)), .val (.ref a1), .val (.ref a2), .val (.int (1 : Int32)), .val (.int (1 : Int32)), .val (.int (0 : Int32)), .unset, .unset] [(.int (0 : Int32))]
      refine go_istore C (pc' := 141) (Ls' := #[.val (.int a), .val (.int b), .val (.int c), .val (.int d), .val (.int e), .val (.int f), .val (.int (Int32.ofNat p0.val)), .val (.int (Int32.ofNat ((p0.val + 1 + d0.val) % 4))), .val (.int (Int32.ofNat p1.val)), .val (.int (Int32.ofNat q1.val)), .val (.int (Int32.ofNat p3.val)), .val (.int (Int32.ofNat q3.val)), .val (.int (Int32.ofNat xx.val)), .val (.ref a1), .val (.ref a2), .val (.int (1 : Int32)), .val (.int (1 : Int32)), .val (.int (0 : Int32)), .val (.int (0 : Int32)), .unset]) at_139 rfl rfl ?_
      refine go_iload C (pc' := 143) at_141 rfl rfl ?_
      refine go_ifN C (pc' := 146) at_143 (by decide) rfl ?_
      refine go_iconst C (pc' := 147) (z := 1) at_146 rfl rfl ?_
      refine go_goto C (pc' := 151) at_147 (by decide) (by decide) ?_
      refine go_iload C (pc' := 153) at_151 rfl rfl ?_
      refine go_ifY C (pc' := 160) at_153 (by decide) (by decide) (by decide) ?_
      refine go_iconst C (pc' := 161) (z := 0) at_160 rfl rfl ?_
      refine go_iadd C (pc' := 162) at_161 rfl ?_
      refine go_istore C (pc' := 164) (Ls' := #[.val (.int a), .val (.int b), .val (.int c), .val (.int d), .val (.int e), .val (.int f), .val (.int (Int32.ofNat p0.val)), .val (.int (Int32.ofNat ((p0.val + 1 + d0.val) % 4))), .val (.int (Int32.ofNat p1.val)), .val (.int (Int32.ofNat q1.val)), .val (.int (Int32.ofNat p3.val)), .val (.int (Int32.ofNat q3.val)), .val (.int (Int32.ofNat xx.val)), .val (.ref a1), .val (.ref a2), .val (.int (1 : Int32)), .val (.int (1 : Int32)), .val (.int (0 : Int32)), .val (.int (0 : Int32)), .val (.int ((1 : Int32) + (0 : Int32)))]) at_162 rfl rfl ?_
      refine go_iload C (pc' := 166) at_164 rfl rfl ?_
      refine go_iload C (pc' := 168) at_166 rfl rfl ?_
      refine go_icN C (pc' := 171) at_168 (teq rfl).2 rfl ?_
      refine go_aload C (pc' := 173) at_171 rfl rfl rfl ?_
      refine go_iload C (pc' := 175) at_173 rfl rfl ?_
      refine go_callV C (pc' := 178) (k' := 8) (n' := 30) (argsL := [(.int (Int32.ofNat xx.val))]) (rest := []) (own_w hw (i := 38) rfl) (own_w hw (i := 27) rfl) (own_w hw (i := 29) rfl) (own_w hw (i := 28) rfl) (own_w hw (i := 3) rfl) (own_w hw (i := 30) rfl) (U1.1) (rmFind Z a0 hw a1 pa1 sa1 ha1 u4 xx.val y hu12 n0 U1 e6) at_175 rfl rfl (lenOf pd4 rfl) (by decide) (by decide) 0 rfl (by decide) rfl rfl (by decide) (by decide) rfl ?_
      rintro _ _ ⟨rfl, rfl⟩
      show Go E room_1 n0 Q1 hu12 8 30 178 #[.val (.int a), .val (.int b), .val (.int c), .val (.int d), .val (.int e), .val (.int f), .val (.int (Int32.ofNat p0.val)), .val (.int (Int32.ofNat ((p0.val + 1 + d0.val) % 4))), .val (.int (Int32.ofNat p1.val)), .val (.int (Int32.ofNat q1.val)), .val (.int (Int32.ofNat p3.val)), .val (.int (Int32.ofNat q3.val)), .val (.int (Int32.ofNat xx.val)), .val (.ref a1), .val (.ref a2), .val (.int (1 : Int32)), .val (.int (1 : Int32)), .val (.int (0 : Int32)), .val (.int (0 : Int32)), .val (.int ((1 : Int32) + (0 : Int32)))] [(.int (Int32.ofNat y))]
      refine go_aload C (pc' := 180) at_178 rfl rfl rfl ?_
      refine go_iload C (pc' := 182) at_180 rfl rfl ?_
      refine go_callV C (pc' := 185) (k' := 8) (n' := 30) (argsL := [(.int (Int32.ofNat xx.val))]) (rest := [(.int (Int32.ofNat y))]) (own_w hw (i := 38) rfl) (own_w hw (i := 27) rfl) (own_w hw (i := 29) rfl) (own_w hw (i := 28) rfl) (own_w hw (i := 3) rfl) (own_w hw (i := 30) rfl) (U2.1) (rmFind Z a0 hw a2 pa2 sa2 ha2 w2 xx.val y hu12 n0 U2 e7) at_182 rfl rfl (lenOf pd4 rfl) (by decide) (by decide) 1 rfl (by decide) rfl rfl (by decide) (by decide) rfl ?_
      rintro _ _ ⟨rfl, rfl⟩
      show Go E room_1 n0 Q1 hu12 8 30 185 #[.val (.int a), .val (.int b), .val (.int c), .val (.int d), .val (.int e), .val (.int f), .val (.int (Int32.ofNat p0.val)), .val (.int (Int32.ofNat ((p0.val + 1 + d0.val) % 4))), .val (.int (Int32.ofNat p1.val)), .val (.int (Int32.ofNat q1.val)), .val (.int (Int32.ofNat p3.val)), .val (.int (Int32.ofNat q3.val)), .val (.int (Int32.ofNat xx.val)), .val (.ref a1), .val (.ref a2), .val (.int (1 : Int32)), .val (.int (1 : Int32)), .val (.int (0 : Int32)), .val (.int (0 : Int32)), .val (.int ((1 : Int32) + (0 : Int32)))] [(.int (Int32.ofNat y)), (.int (Int32.ofNat y))]
      refine go_icN C (pc' := 188) at_185 (teq rfl).2 rfl ?_
      refine go_aload C (pc' := 190) at_188 rfl rfl rfl ?_
      refine go_callV C (pc' := 193) (k' := 8) (n' := 30) (argsL := []) (rest := []) (own_w hw (i := 39) rfl) (own_w hw (i := 40) rfl) (own_w hw (i := 42) rfl) (own_w hw (i := 41) rfl) (own_w hw (i := 3) rfl) (own_w hw (i := 43) rfl) (U1.1) (rmSets Z a0 hw a1 pa1 sa1 ha1 u4 hu12 n0 U1 (by omega)) at_190 rfl rfl (lenOf pd5 rfl) (by decide) (by decide) 0 rfl (by decide) rfl rfl (by decide) (by decide) rfl ?_
      rintro _ _ ⟨rfl, rfl⟩
      rw [hlen, hun]
      show Go E room_1 n0 Q1 hu12 8 30 193 #[.val (.int a), .val (.int b), .val (.int c), .val (.int d), .val (.int e), .val (.int f), .val (.int (Int32.ofNat p0.val)), .val (.int (Int32.ofNat ((p0.val + 1 + d0.val) % 4))), .val (.int (Int32.ofNat p1.val)), .val (.int (Int32.ofNat q1.val)), .val (.int (Int32.ofNat p3.val)), .val (.int (Int32.ofNat q3.val)), .val (.int (Int32.ofNat xx.val)), .val (.ref a1), .val (.ref a2), .val (.int (1 : Int32)), .val (.int (1 : Int32)), .val (.int (0 : Int32)), .val (.int (0 : Int32)), .val (.int ((1 : Int32) + (0 : Int32)))] [(.int (3 : Int32))]
      refine go_iconst C (pc' := 194) (z := 4) at_193 rfl rfl ?_
      refine go_iload C (pc' := 196) at_194 rfl rfl ?_
      refine go_isub C (pc' := 197) at_196 rfl ?_
      refine go_icN C (pc' := 200) at_197 (teq (by decide)).2 rfl ?_
      refine go_iconst C (pc' := 201) (z := 1) at_200 rfl rfl ?_
      refine go_goto C (pc' := 205) at_201 (by decide) (by decide) ?_
      refine go_retZ C at_205 (by decide) (by decide) (by decide) ?_
      exact rfl
    · skip
      refine go_callV C (pc' := 128) (k' := 8) (n' := 30) (argsL := [(.int (Int32.ofNat p3.val)), (.int (Int32.ofNat q3.val))]) (rest := []) (own_w hw (i := 21) rfl) (own_w hw (i := 22) rfl) (own_w hw (i := 24) rfl) (own_w hw (i := 23) rfl) (own_w hw (i := 3) rfl) (own_w hw (i := 25) rfl) (U1.1) (rmU Z a0 hw a1 pa1 sa1 ha1 u3 u4 p3.val q3.val 1 hu10 n0 ge1 U1 e4) at_125 rfl rfl (lenOf pd3 rfl) (by decide) (by decide) 0 rfl (by decide) rfl rfl (by decide) (by decide) rfl ?_
      rintro _ hu13 ⟨rfl, Ku13, V1⟩
      clear U1
      have U1 := V1
      clear V1
      replace U2 := U2.keep Ku13 (nin4 (by omega) (by omega) (by omega) (by omega)) (nin4 (by omega) (by omega) (by omega) (by omega)) (nin4 (by omega) (by omega) (by omega) (by omega)) (nin4 (by omega) (by omega) (by omega) (by omega))
      show Go E room_1 n0 Q1 hu13 8 30 128 #[.val (.int a), .val (.int b), .val (.int c), .val (.int d), .val (.int e), .val (.int f), .val (.int (Int32.ofNat p0.val)), .val (.int (Int32.ofNat ((p0.val + 1 + d0.val) % 4))), .val (.int (Int32.ofNat p1.val)), .val (.int (Int32.ofNat q1.val)), .val (.int (Int32.ofNat p3.val)), .val (.int (Int32.ofNat q3.val)), .val (.int (Int32.ofNat xx.val)), .val (.ref a1), .val (.ref a2), .val (.int (1 : Int32)), .val (.int (1 : Int32)), .unset, .unset, .unset] [(.int (1 : Int32))]
      refine go_istore C (pc' := 130) (Ls' := #[.val (.int a), .val (.int b), .val (.int c), .val (.int d), .val (.int e), .val (.int f), .val (.int (Int32.ofNat p0.val)), .val (.int (Int32.ofNat ((p0.val + 1 + d0.val) % 4))), .val (.int (Int32.ofNat p1.val)), .val (.int (Int32.ofNat q1.val)), .val (.int (Int32.ofNat p3.val)), .val (.int (Int32.ofNat q3.val)), .val (.int (Int32.ofNat xx.val)), .val (.ref a1), .val (.ref a2), .val (.int (1 : Int32)), .val (.int (1 : Int32)), .val (.int (1 : Int32)), .unset, .unset]) at_128 rfl rfl ?_
      refine go_aload C (pc' := 132) at_130 rfl rfl rfl ?_
      refine go_iload C (pc' := 134) at_132 rfl rfl ?_
      refine go_iload C (pc' := 136) at_134 rfl rfl ?_
      refine go_callV C (pc' := 139) (k' := 8) (n' := 30) (argsL := [(.int (Int32.ofNat p3.val)), (.int (Int32.ofNat q3.val))]) (rest := []) (own_w hw (i := 21) rfl) (own_w hw (i := 22) rfl) (own_w hw (i := 24) rfl) (own_w hw (i := 23) rfl) (own_w hw (i := 3) rfl) (own_w hw (i := 25) rfl) (U2.1) (rmU Z a0 hw a2 pa2 sa2 ha2 u1 w2 p3.val q3.val 1 hu13 n0 ge2 U2 e5) at_136 rfl rfl (lenOf pd3 rfl) (by decide) (by decide) 0 rfl (by decide) rfl rfl (by decide) (by decide) rfl ?_
      rintro _ hu14 ⟨rfl, Ku14, V2⟩
      clear U2
      have U2 := V2
      clear V2
      replace U1 := U1.keep Ku14 (nin4 (by omega) (by omega) (by omega) (by omega)) (nin4 (by omega) (by omega) (by omega) (by omega)) (nin4 (by omega) (by omega) (by omega) (by omega)) (nin4 (by omega) (by omega) (by omega) (by omega))
      show Go E room_1 n0 Q1 hu14 8 30 139 #[.val (.int a), .val (.int b), .val (.int c), .val (.int d), .val (.int e), .val (.int f), .val (.int (Int32.ofNat p0.val)), .val (.int (Int32.ofNat ((p0.val + 1 + d0.val) % 4))), .val (.int (Int32.ofNat p1.val)), .val (.int (Int32.ofNat q1.val)), .val (.int (Int32.ofNat p3.val)), .val (.int (Int32.ofNat q3.val)), .val (.int (Int32.ofNat xx.val)), .val (.ref a1), .val (.ref a2), .val (.int (1 : Int32)), .val (.int (1 : Int32)), .val (.int (1 : Int32)), .unset, .unset] [(.int (1 : Int32))]
      refine go_istore C (pc' := 141) (Ls' := #[.val (.int a), .val (.int b), .val (.int c), .val (.int d), .val (.int e), .val (.int f), .val (.int (Int32.ofNat p0.val)), .val (.int (Int32.ofNat ((p0.val + 1 + d0.val) % 4))), .val (.int (Int32.ofNat p1.val)), .val (.int (Int32.ofNat q1.val)), .val (.int (Int32.ofNat p3.val)), .val (.int (Int32.ofNat q3.val)), .val (.int (Int32.ofNat xx.val)), .val (.ref a1), .val (.ref a2), .val (.int (1 : Int32)), .val (.int (1 : Int32)), .val (.int (1 : Int32)), .val (.int (1 : Int32)), .unset]) at_139 rfl rfl ?_
      refine go_iload C (pc' := 143) at_141 rfl rfl ?_
      refine go_ifN C (pc' := 146) at_143 (by decide) rfl ?_
      refine go_iconst C (pc' := 147) (z := 1) at_146 rfl rfl ?_
      refine go_goto C (pc' := 151) at_147 (by decide) (by decide) ?_
      refine go_iload C (pc' := 153) at_151 rfl rfl ?_
      refine go_ifN C (pc' := 156) at_153 (by decide) rfl ?_
      refine go_iconst C (pc' := 157) (z := 1) at_156 rfl rfl ?_
      refine go_goto C (pc' := 161) at_157 (by decide) (by decide) ?_
      refine go_iadd C (pc' := 162) at_161 rfl ?_
      refine go_istore C (pc' := 164) (Ls' := #[.val (.int a), .val (.int b), .val (.int c), .val (.int d), .val (.int e), .val (.int f), .val (.int (Int32.ofNat p0.val)), .val (.int (Int32.ofNat ((p0.val + 1 + d0.val) % 4))), .val (.int (Int32.ofNat p1.val)), .val (.int (Int32.ofNat q1.val)), .val (.int (Int32.ofNat p3.val)), .val (.int (Int32.ofNat q3.val)), .val (.int (Int32.ofNat xx.val)), .val (.ref a1), .val (.ref a2), .val (.int (1 : Int32)), .val (.int (1 : Int32)), .val (.int (1 : Int32)), .val (.int (1 : Int32)), .val (.int ((1 : Int32) + (1 : Int32)))]) at_162 rfl rfl ?_
      refine go_iload C (pc' := 166) at_164 rfl rfl ?_
      refine go_iload C (pc' := 168) at_166 rfl rfl ?_
      refine go_icN C (pc' := 171) at_168 (teq rfl).2 rfl ?_
      refine go_aload C (pc' := 173) at_171 rfl rfl rfl ?_
      refine go_iload C (pc' := 175) at_173 rfl rfl ?_
      refine go_callV C (pc' := 178) (k' := 8) (n' := 30) (argsL := [(.int (Int32.ofNat xx.val))]) (rest := []) (own_w hw (i := 38) rfl) (own_w hw (i := 27) rfl) (own_w hw (i := 29) rfl) (own_w hw (i := 28) rfl) (own_w hw (i := 3) rfl) (own_w hw (i := 30) rfl) (U1.1) (rmFind Z a0 hw a1 pa1 sa1 ha1 u4 xx.val y hu14 n0 U1 e6) at_175 rfl rfl (lenOf pd4 rfl) (by decide) (by decide) 0 rfl (by decide) rfl rfl (by decide) (by decide) rfl ?_
      rintro _ _ ⟨rfl, rfl⟩
      show Go E room_1 n0 Q1 hu14 8 30 178 #[.val (.int a), .val (.int b), .val (.int c), .val (.int d), .val (.int e), .val (.int f), .val (.int (Int32.ofNat p0.val)), .val (.int (Int32.ofNat ((p0.val + 1 + d0.val) % 4))), .val (.int (Int32.ofNat p1.val)), .val (.int (Int32.ofNat q1.val)), .val (.int (Int32.ofNat p3.val)), .val (.int (Int32.ofNat q3.val)), .val (.int (Int32.ofNat xx.val)), .val (.ref a1), .val (.ref a2), .val (.int (1 : Int32)), .val (.int (1 : Int32)), .val (.int (1 : Int32)), .val (.int (1 : Int32)), .val (.int ((1 : Int32) + (1 : Int32)))] [(.int (Int32.ofNat y))]
      refine go_aload C (pc' := 180) at_178 rfl rfl rfl ?_
      refine go_iload C (pc' := 182) at_180 rfl rfl ?_
      refine go_callV C (pc' := 185) (k' := 8) (n' := 30) (argsL := [(.int (Int32.ofNat xx.val))]) (rest := [(.int (Int32.ofNat y))]) (own_w hw (i := 38) rfl) (own_w hw (i := 27) rfl) (own_w hw (i := 29) rfl) (own_w hw (i := 28) rfl) (own_w hw (i := 3) rfl) (own_w hw (i := 30) rfl) (U2.1) (rmFind Z a0 hw a2 pa2 sa2 ha2 w2 xx.val y hu14 n0 U2 e7) at_182 rfl rfl (lenOf pd4 rfl) (by decide) (by decide) 1 rfl (by decide) rfl rfl (by decide) (by decide) rfl ?_
      rintro _ _ ⟨rfl, rfl⟩
      show Go E room_1 n0 Q1 hu14 8 30 185 #[.val (.int a), .val (.int b), .val (.int c), .val (.int d), .val (.int e), .val (.int f), .val (.int (Int32.ofNat p0.val)), .val (.int (Int32.ofNat ((p0.val + 1 + d0.val) % 4))), .val (.int (Int32.ofNat p1.val)), .val (.int (Int32.ofNat q1.val)), .val (.int (Int32.ofNat p3.val)), .val (.int (Int32.ofNat q3.val)), .val (.int (Int32.ofNat xx.val)), .val (.ref a1), .val (.ref a2), .val (.int (1 : Int32)), .val (.int (1 : Int32)), .val (.int (1 : Int32)), .val (.int (1 : Int32)), .val (.int ((1 : Int32) + (1 : Int32)))] [(.int (Int32.ofNat y)), (.int (Int32.ofNat y))]
      refine go_icN C (pc' := 188) at_185 (teq rfl).2 rfl ?_
      refine go_aload C (pc' := 190) at_188 rfl rfl rfl ?_
      refine go_callV C (pc' := 193) (k' := 8) (n' := 30) (argsL := []) (rest := []) (own_w hw (i := 39) rfl) (own_w hw (i := 40) rfl) (own_w hw (i := 42) rfl) (own_w hw (i := 41) rfl) (own_w hw (i := 3) rfl) (own_w hw (i := 43) rfl) (U1.1) (rmSets Z a0 hw a1 pa1 sa1 ha1 u4 hu14 n0 U1 (by omega)) at_190 rfl rfl (lenOf pd5 rfl) (by decide) (by decide) 0 rfl (by decide) rfl rfl (by decide) (by decide) rfl ?_
      rintro _ _ ⟨rfl, rfl⟩
      rw [hlen, hun]
      show Go E room_1 n0 Q1 hu14 8 30 193 #[.val (.int a), .val (.int b), .val (.int c), .val (.int d), .val (.int e), .val (.int f), .val (.int (Int32.ofNat p0.val)), .val (.int (Int32.ofNat ((p0.val + 1 + d0.val) % 4))), .val (.int (Int32.ofNat p1.val)), .val (.int (Int32.ofNat q1.val)), .val (.int (Int32.ofNat p3.val)), .val (.int (Int32.ofNat q3.val)), .val (.int (Int32.ofNat xx.val)), .val (.ref a1), .val (.ref a2), .val (.int (1 : Int32)), .val (.int (1 : Int32)), .val (.int (1 : Int32)), .val (.int (1 : Int32)), .val (.int ((1 : Int32) + (1 : Int32)))] [(.int (2 : Int32))]
      refine go_iconst C (pc' := 194) (z := 4) at_193 rfl rfl ?_
      refine go_iload C (pc' := 196) at_194 rfl rfl ?_
      refine go_isub C (pc' := 197) at_196 rfl ?_
      refine go_icN C (pc' := 200) at_197 (teq (by decide)).2 rfl ?_
      refine go_iconst C (pc' := 201) (z := 1) at_200 rfl rfl ?_
      refine go_goto C (pc' := 205) at_201 (by decide) (by decide) ?_
      refine go_retZ C at_205 (by decide) (by decide) (by decide) ?_
      exact rfl
set_option maxRecDepth 65536 in
set_option maxHeartbeats 4000000 in
theorem comes_1 {Post : Tables → Env → Array Value → State → Outcome → State → Prop} (hpost : ∀ tb e args s v u, (limb_1_1.after args s (.returned v) u = true ∧ limb_1_2.after args s (.returned v) u = true ∧ True) → FrameEnd s (.returned v) u (Jvm.fieldLocs frame_1_writes args s ++ Jvm.arrayLocs frame_1_arrays args s ++ Jvm.staticLocs frame_1_statics s) 24 128 → Post tb e args s (.returned v) u) :
    ArmFor flags0 classFile x code maxLocals ret World_1 tables_1 room_1 Calls_1 rest_1 Pre_1 Post := by
  intro l hfl _ _ p e ha hc hk s m args below hf hA hF happ hP
  obtain ⟨hcalls, hrest, hpre⟩ := hP
  obtain ⟨-, -, -, hnamed, -, -, -, hat⟩ := (Spec.applies_iff hf).mp happ
  obtain ⟨hg, hn⟩ := and_e (Cond.before_iff.mp (show (Jvm.Cond.and given_1 narrow_1).before args s = true from hpre))
  obtain ⟨hcnt, g0⟩ := and_e hg
  obtain ⟨f0, g1⟩ := and_e g0
  obtain ⟨f1, g2⟩ := and_e g1
  obtain ⟨f2, g3⟩ := and_e g2
  obtain ⟨f3, g4⟩ := and_e g3
  obtain ⟨f4, g5⟩ := and_e g4
  obtain ⟨w0, w1, w2, w3, w4, w5, rfl⟩ : ∃ w0 w1 w2 w3 w4 w5 : Value, args = #[w0, w1, w2, w3, w4, w5] := by
    have hs : args.size = 6 := by simpa [Cond.value, given_1] using hcnt
    obtain ⟨L⟩ := args
    match L, hs with
    | [w0, w1, w2, w3, w4, w5], _ => exact ⟨w0, w1, w2, w3, w4, w5, rfl⟩
  have hw := fun d (hd : d ∈ tables_1) => atoms_spec (ws := Jvm.Cond.code x code maxLocals ret :: tables_1) hat d (List.mem_cons_of_mem _ hd)
  obtain ⟨i0, e0⟩ := is_v f0
  obtain rfl : w0 = (.int i0) := Option.some.inj e0
  obtain ⟨i1, e1⟩ := is_v f1
  obtain rfl : w1 = (.int i1) := Option.some.inj e1
  obtain ⟨i2, e2⟩ := is_v f2
  obtain rfl : w2 = (.int i2) := Option.some.inj e2
  obtain ⟨i3, e3⟩ := is_v f3
  obtain rfl : w3 = (.int i3) := Option.some.inj e3
  obtain ⟨i4, e4⟩ := is_v f4
  obtain rfl : w4 = (.int i4) := Option.some.inj e4
  obtain ⟨i5, e5⟩ := is_v g5
  obtain rfl : w5 = (.int i5) := Option.some.inj e5
  obtain ⟨n, o, h1, h2, h3, _, L, rfl, ⟨rfl, N⟩, hq⟩ := rm0 s _ hw i0 i1 i2 i3 i4 i5 s.heap s.heap.size (Nat.le_refl _) l tables_1 p e ha hc hk s m _ below hf ((Spec.applies_iff_loose hf).mp happ).1 ⟨rfl, State.Warmed39.refl s, rfl⟩ trivial
  refine ⟨n, _, h1, h2, h3, hpost _ _ _ _ _ _ ⟨Cond.after_iff.mpr rfl, Cond.after_iff.mpr (eq_i res_at (Term.int_eval (1)) rfl), trivial⟩ ⟨hq.1, hq.2.1, (hq.2.2.sift fun y hy => Or.inr (N y hy)).mono (by decide) (by decide)⟩⟩
theorem main_1_1 : Claimed_1_1 := comes_1 fun _ _ _ _ _ _ h hF => ⟨h.1, hF⟩
theorem main_1_2 : Claimed_1_2 := comes_1 fun _ _ _ _ _ _ h hF => ⟨h.2.1, hF⟩
end Jvm.Pilot.@@N@@
namespace Jvm.Pilot.@@N@@
open Jvm Jvm.ClassFile Sem Op Lib Jvm.Free Jvm.Stand Jvm.Pilot.@@N@@.Jvm.D
/-! MADE BY PROGRAM (witnessworld.py) out of the Statement's table words and the real class files: 10 classes; the members and pool entries that the words name. The judged class is class 1, her method 1. -/
namespace start1
open Jvm.ClassFile
def u (s : String) : CpInfo := .utf8 (stringToUtf16 s)
/-- a pool by its gaps: so many unusable entries, then the entry; so many at the end -/
def gap : Nat → List CpInfo → List CpInfo
  | 0, r => r
  | n + 1, r => .unusable :: gap n r
def poolList (es : List (Nat × CpInfo)) (last : Nat) : List CpInfo := es.foldr (fun e r => gap e.1 (e.2 :: r)) (gap last [])
def pool (es : List (Nat × CpInfo)) (last : Nat) : Array CpInfo := ⟨poolList es last⟩
def fileOf (pool : Array CpInfo) (this : Nat) (attrs : Array Attribute := #[]) (ms : Array MethodInfo := #[]) (fl : Nat := 33) (sup : Nat := 0) (ifs : Array Nat := #[]) (fds : Array FieldInfo := #[]) : ClassFile where
  minorVersion := 0
  majorVersion := 65
  constantPool := pool
  accessFlags := fl
  thisClass := this
  superClass := sup
  interfaces := ifs
  fields := fds
  methods := ms
  attributes := attrs
def plain (name : String) (sup : Option ClassId) : Class where
  name := name
  kind := .ordinary
  loader := none
  accessFlags := 33
  super := sup
  interfaces := #[]
  cf := none
  fields := #[]
  methods := #[]
  instanceTypes := #[]
  staticTypes := #[]
  resolved := #[]
  callSites := []
  init := .initialized
  statics := none
  mirror := none

def pool0 : Array CpInfo := pool [(5, u "<init>"), (0, u "()V"), (1, .class_ 10), (1, u "java/lang/Object")] 113

def k0c0 : Code := { maxStack := 0, maxLocals := 1, code := object_method_1_code, exceptionTable := #[], attributes := #[] }
def k0m0 : Method := { name := "<init>", desc := "()V", sig := { parameters := [], returnType := none }, accessFlags := 1, code := some k0c0 }
/-- java/lang/Object -/
def k0 : Class := { plain "java/lang/Object" none with
  accessFlags := 33
  interfaces := #[]
  cf := some (fileOf pool0 8 #[] #[{ accessFlags := 1, nameIndex := 5, descriptorIndex := 6, attributes := #[] }] 33 0 #[] #[])
  fields := #[]
  methods := #[k0m0]
  instanceTypes := #[]
  staticTypes := #[]
  resolved := Array.replicate 124 none
  statics := none }

def pool1 : Array CpInfo := pool [(2, .class_ 4), (1, u "java/lang/Object"), (0, u "<init>"), (0, u "()V"), (0, .integer 2147483647), (0, .class_ 9), (0, u "com/example/joinweave/joinweave/graph/UnionFind"), (0, .methodref 8 11), (0, .nameAndType 5 12), (0, u "(I)V"), (0, .methodref 8 14), (0, .nameAndType 15 16), (0, u "union"), (0, u "(II)Z"), (0, .methodref 8 18), (0, .nameAndType 19 6), (0, u "undo"), (0, .methodref 8 21), (0, .nameAndType 22 23), (0, u "find"), (0, u "(I)I"), (0, .methodref 8 25), (0, .nameAndType 26 27), (0, u "sets"), (0, u "()I"), (0, .class_ 29), (0, u "com/example/joinweave/joinweave/graph/UnionFindUndoPinLaw"), (2, u "law"), (0, u "(IIIIII)Z")] 3

def k1m0 : Method := { name := "<init>", desc := "()V", sig := { parameters := [], returnType := none }, accessFlags := 1, code := none }
def k1c1 : Code := { maxStack := 3, maxLocals := 20, code := code, exceptionTable := #[], attributes := #[] }
def k1m1 : Method := { name := "law", desc := "(IIIIII)Z", sig := { parameters := [.int, .int, .int, .int, .int, .int], returnType := some .boolean }, accessFlags := 9, code := some k1c1 }
/-- com/example/joinweave/joinweave/graph/UnionFindUndoPinLaw -/
def k1 : Class := { plain "com/example/joinweave/joinweave/graph/UnionFindUndoPinLaw" (some 0) with
  accessFlags := 49
  interfaces := #[]
  cf := some (fileOf pool1 28 #[] #[{ accessFlags := 1, nameIndex := 5, descriptorIndex := 6, attributes := #[] }, { accessFlags := 9, nameIndex := 32, descriptorIndex := 33, attributes := #[] }] 49 2 #[] #[])
  fields := #[]
  methods := #[k1m0, k1m1]
  instanceTypes := #[]
  staticTypes := #[]
  resolved := Array.replicate 37 none
  statics := none }

def pool2 : Array CpInfo := pool [(1, .methodref 2 3), (0, .class_ 4), (0, .nameAndType 5 6), (0, u "java/lang/Object"), (0, u "<init>"), (0, u "()V"), (0, .fieldref 8 9), (0, .class_ 10), (0, .nameAndType 11 12), (0, u "com/example/joinweave/joinweave/graph/UnionFind"), (0, u "parent"), (0, u "[I"), (0, .fieldref 8 14), (0, .nameAndType 15 12), (0, u "size"), (0, .methodref 17 18), (0, .class_ 19), (0, .nameAndType 20 21), (0, u "java/lang/Math"), (0, u "max"), (0, u "(II)I"), (0, .fieldref 8 23), (0, .nameAndType 24 12), (0, u "hung"), (0, .methodref 8 26), (0, .nameAndType 27 28), (0, u "find"), (0, u "(I)I"), (0, .fieldref 8 30), (0, .nameAndType 31 32), (0, u "unions"), (0, u "I"), (0, u "(I)V"), (3, u "union"), (0, u "(II)Z"), (0, u "undo"), (0, u "sets"), (0, u "()I")] 2

def k2c0 : Code := { maxStack := 4, maxLocals := 3, code := prog_164_method_1_code, exceptionTable := #[], attributes := #[] }
def k2m0 : Method := { name := "<init>", desc := "(I)V", sig := { parameters := [.int], returnType := none }, accessFlags := 0, code := some k2c0 }
def k2c1 : Code := { maxStack := 2, maxLocals := 3, code := prog_164_method_2_code, exceptionTable := #[], attributes := #[] }
def k2m1 : Method := { name := "find", desc := "(I)I", sig := { parameters := [.int], returnType := some .int }, accessFlags := 0, code := some k2c1 }
def k2c2 : Code := { maxStack := 5, maxLocals := 6, code := prog_164_method_3_code, exceptionTable := #[], attributes := #[] }
def k2m2 : Method := { name := "union", desc := "(II)Z", sig := { parameters := [.int, .int], returnType := some .boolean }, accessFlags := 0, code := some k2c2 }
def k2c3 : Code := { maxStack := 5, maxLocals := 2, code := prog_164_method_4_code, exceptionTable := #[], attributes := #[] }
def k2m3 : Method := { name := "undo", desc := "()V", sig := { parameters := [], returnType := none }, accessFlags := 0, code := some k2c3 }
def k2c4 : Code := { maxStack := 2, maxLocals := 1, code := prog_164_method_5_code, exceptionTable := #[], attributes := #[] }
def k2m4 : Method := { name := "sets", desc := "()I", sig := { parameters := [], returnType := some .int }, accessFlags := 0, code := some k2c4 }
/-- com/example/joinweave/joinweave/graph/UnionFind -/
def k2 : Class := { plain "com/example/joinweave/joinweave/graph/UnionFind" (some 0) with
  accessFlags := 48
  interfaces := #[]
  cf := some (fileOf pool2 8 #[] #[{ accessFlags := 0, nameIndex := 5, descriptorIndex := 33, attributes := #[] }, { accessFlags := 0, nameIndex := 27, descriptorIndex := 28, attributes := #[] }, { accessFlags := 0, nameIndex := 37, descriptorIndex := 38, attributes := #[] }, { accessFlags := 0, nameIndex := 39, descriptorIndex := 6, attributes := #[] }, { accessFlags := 0, nameIndex := 40, descriptorIndex := 41, attributes := #[] }] 48 2 #[] #[{ accessFlags := 18, nameIndex := 11, descriptorIndex := 12, attributes := #[] }, { accessFlags := 18, nameIndex := 15, descriptorIndex := 12, attributes := #[] }, { accessFlags := 18, nameIndex := 24, descriptorIndex := 12, attributes := #[] }, { accessFlags := 2, nameIndex := 31, descriptorIndex := 32, attributes := #[] }])
  fields := #[{ name := "parent", type := (.array .int), accessFlags := 18, slot := 0, constantValue := 0 }, { name := "size", type := (.array .int), accessFlags := 18, slot := 1, constantValue := 0 }, { name := "hung", type := (.array .int), accessFlags := 18, slot := 2, constantValue := 0 }, { name := "unions", type := .int, accessFlags := 2, slot := 3, constantValue := 0 }]
  methods := #[k2m0, k2m1, k2m2, k2m3, k2m4]
  instanceTypes := #[(.array .int), (.array .int), (.array .int), .int]
  staticTypes := #[]
  resolved := Array.replicate 44 none
  statics := none }

def pool3 : Array CpInfo := pool [(1, .class_ 2), (0, u "java/lang/Math"), (1, .class_ 6), (1, u "java/lang/Object"), (0, u "<init>"), (0, u "()V"), (89, .class_ 100), (1, u "java/lang/Math$RandomNumberGeneratorHolder"), (71, u "negativeZeroFloatBits"), (0, u "J"), (2, u "negativeZeroDoubleBits"), (21, u "max"), (46, u "$assertionsDisabled"), (0, u "Z"), (88, u "(II)I"), (2, u "twoToTheDoubleScaleDown"), (0, u "D"), (4, u "twoToTheDoubleScaleUp"), (9, u "E"), (3, u "PI"), (2, u "TAU"), (2, u "DEGREES_TO_RADIANS"), (0, u "RADIANS_TO_DEGREES")] 94

def k3m0 : Method := { name := "<init>", desc := "()V", sig := { parameters := [], returnType := none }, accessFlags := 2, code := none }
def k3c1 : Code := { maxStack := 2, maxLocals := 2, code := jdk_29_method_65_code, exceptionTable := #[], attributes := #[] }
def k3m1 : Method := { name := "max", desc := "(II)I", sig := { parameters := [.int, .int], returnType := some .int }, accessFlags := 9, code := some k3c1 }
/-- java/lang/Math -/
def k3 : Class := { plain "java/lang/Math" (some 0) with
  accessFlags := 49
  interfaces := #[]
  cf := some (fileOf pool3 1 #[.nestMembers #[98]] #[{ accessFlags := 2, nameIndex := 7, descriptorIndex := 8, attributes := #[] }, { accessFlags := 9, nameIndex := 198, descriptorIndex := 335, attributes := #[] }] 49 4 #[] #[{ accessFlags := 25, nameIndex := 354, descriptorIndex := 339, attributes := #[] }, { accessFlags := 25, nameIndex := 358, descriptorIndex := 339, attributes := #[] }, { accessFlags := 25, nameIndex := 361, descriptorIndex := 339, attributes := #[] }, { accessFlags := 26, nameIndex := 364, descriptorIndex := 339, attributes := #[] }, { accessFlags := 26, nameIndex := 365, descriptorIndex := 339, attributes := #[] }, { accessFlags := 26, nameIndex := 172, descriptorIndex := 173, attributes := #[] }, { accessFlags := 26, nameIndex := 176, descriptorIndex := 173, attributes := #[] }, { accessFlags := 8, nameIndex := 344, descriptorIndex := 339, attributes := #[] }, { accessFlags := 8, nameIndex := 338, descriptorIndex := 339, attributes := #[] }, { accessFlags := 4120, nameIndex := 245, descriptorIndex := 246, attributes := #[] }])
  fields := #[{ name := "E", type := .double, accessFlags := 25, slot := 0, constantValue := 0 }, { name := "PI", type := .double, accessFlags := 25, slot := 1, constantValue := 0 }, { name := "TAU", type := .double, accessFlags := 25, slot := 2, constantValue := 0 }, { name := "DEGREES_TO_RADIANS", type := .double, accessFlags := 26, slot := 3, constantValue := 0 }, { name := "RADIANS_TO_DEGREES", type := .double, accessFlags := 26, slot := 4, constantValue := 0 }, { name := "negativeZeroFloatBits", type := .long, accessFlags := 26, slot := 5, constantValue := 0 }, { name := "negativeZeroDoubleBits", type := .long, accessFlags := 26, slot := 6, constantValue := 0 }, { name := "twoToTheDoubleScaleUp", type := .double, accessFlags := 8, slot := 7, constantValue := 0 }, { name := "twoToTheDoubleScaleDown", type := .double, accessFlags := 8, slot := 8, constantValue := 0 }, { name := "$assertionsDisabled", type := .boolean, accessFlags := 4120, slot := 9, constantValue := 0 }]
  methods := #[k3m0, k3m1]
  instanceTypes := #[]
  staticTypes := #[.double, .double, .double, .double, .double, .long, .long, .double, .double, .boolean]
  resolved := Array.replicate 460 none
  statics := none }

def pool4 : Array CpInfo := pool [(1, u "java/lang/Cloneable"), (0, .class_ 1), (0, u "java/lang/Object"), (0, .class_ 3)] 3

/-- java/lang/Cloneable -/
def k4 : Class := { plain "java/lang/Cloneable" (some 0) with
  accessFlags := 1537
  interfaces := #[]
  cf := some (fileOf pool4 2 #[] #[] 1537 4 #[] #[])
  fields := #[]
  methods := #[]
  instanceTypes := #[]
  staticTypes := #[]
  resolved := Array.replicate 8 none
  statics := none }

def pool5 : Array CpInfo := pool [(1, u "java/io/Serializable"), (0, .class_ 1), (0, u "java/lang/Object"), (0, .class_ 3)] 3

/-- java/io/Serializable -/
def k5 : Class := { plain "java/io/Serializable" (some 0) with
  accessFlags := 1537
  interfaces := #[]
  cf := some (fileOf pool5 2 #[] #[] 1537 4 #[] #[])
  fields := #[]
  methods := #[]
  instanceTypes := #[]
  staticTypes := #[]
  resolved := Array.replicate 8 none
  statics := none }

/-- the primitive byte -/
def k6 : Class := { plain "byte" none with kind := .primitive 'B', accessFlags := 0x411 }
/-- [B -/
def k7 : Class := { plain "[B" (some 0) with kind := .array 6 .byte, interfaces := #[4, 5], accessFlags := 1041 }

/-- the primitive int -/
def k8 : Class := { plain "int" none with kind := .primitive 'I', accessFlags := 0x411 }
/-- [I -/
def k9 : Class := { plain "[I" (some 0) with kind := .array 8 .int, interfaces := #[4, 5], accessFlags := 1041 }

def heap : Heap := #[]
def classes : Array Class := #[k0, k1, k2, k3, k4, k5, k6, k7, k8, k9]
def interned : List (Array UInt16 × Addr) := []
def slotsUsed : Nat := 0
def theMethod : MethodId := ⟨1, 1⟩
def args0 : Array Value := #[.int 1, .int 2, .int 3, .int 4, .int 5, .int 6]
def aboutOver (below : List Frame) : State where
  vm := { classes := classes, interned := interned.toArray }
  heap := heap
  slotsUsed := slotsUsed
  threads := #[{ frames := .invoking theMethod args0 :: below }]
def below0 : List Frame := [.native { method := ⟨0, 0⟩, args := #[] }]
def about1 : State := aboutOver below0
def p0 : Program := .bare "" "" ""
def e0 : Env := launch0.env 0 0 0
theorem w_frames : about1.frames = Frame.invoking theMethod args0 :: below0 := rfl
set_option maxRecDepth 65536 in
theorem w_args : argsFit about1.vm theMethod args0 = true := by decide +kernel
set_option maxRecDepth 65536 in
theorem w_heap : heapFits about1 = true := by decide +kernel
set_option maxRecDepth 65536 in
theorem w_runnable : about1.curStatus? = some .runnable := by decide +kernel
set_option maxRecDepth 65536 in
theorem w_alone : about1.alone = true := by decide +kernel
set_option maxRecDepth 65536 in
theorem w_named : about1.methodNamed? x = some theMethod := by decide +kernel
set_option maxRecDepth 65536 in
theorem w_hears : about1.hears theMethod below0 = true := by decide +kernel
set_option maxRecDepth 65536 in
theorem w_ripe : about1.ripe theMethod args0 below0 = true := by decide +kernel
theorem w_running : about1.status = .running := rfl
set_option maxRecDepth 65536 in
theorem w_room : about1.hasRoom e0.platform room_1 = true :=
  launch0.hasRoom_least _ room_1 (by decide +kernel) (by decide +kernel) (by decide +kernel) (by decide +kernel) (by decide +kernel) (by decide +kernel)
theorem allAtoms_all (ts : List Jvm.Cond) (a : Array Jvm.Value) (st : Jvm.State) : (allAtoms ts).before a st = ts.all (fun c => c.before a st) := by
  induction ts with
  | nil => rfl
  | cons c t ih =>
    show (Jvm.Cond.and c (allAtoms t)).before a st = _
    rw [Jvm.Cond.before_and, ih, List.all_cons]
def words1 : List Jvm.Cond := Jvm.Cond.code x code maxLocals ret :: tables_1
/-- a 'code' word, met by the world's own term for the bytes: nothing is compared byte by byte -/
theorem code_word {y : MethodName} {bytes : ByteArray} {mx : Nat} {rt : Option FieldType} {a : Array Value} {s : State} {m : MethodId} {meth : Method} {c : Code} (h1 : s.methodNamed? y = some m) (h2 : s.vm.method? m = some meth) (h3 : meth.code = some c) (h4 : c.code = bytes)
    (h5 : (c.maxLocals == mx && c.exceptionTable.isEmpty && decide (c.maxStack ≤ mostOperands) && decide (meth.sig.returnType = rt) && !meth.locks && decide (parseMethodDescriptor y.desc = some meth.sig)) = true) : (Jvm.Cond.code y bytes mx rt).before a s = true := by
  simp only [Bool.and_eq_true, beq_iff_eq, Bool.not_eq_true', decide_eq_true_eq] at h5
  obtain ⟨⟨⟨⟨⟨g1, g2⟩, g3⟩, g4⟩, g5⟩, g6⟩ := h5
  simp [Cond.before, Cond.holds, Cond.value, h1, h2, h3, h4, g1, g2, g3, g4, g5, g6]
def isCode : Jvm.Cond → Bool
  | .code _ _ _ _ => true
  | _ => false
theorem all_split {L : List Jvm.Cond} {P : Jvm.Cond → Bool} (h1 : L.all (fun c => isCode c || P c) = true) (h2 : ∀ c ∈ L.filter isCode, P c = true) : L.all P = true := by
  refine List.all_eq_true.mpr fun c hc => ?_
  have h := List.all_eq_true.mp h1 c hc
  rcases Bool.eq_false_or_eq_true (isCode c) with hi | hi
  · exact h2 c (List.mem_filter.mpr ⟨hc, hi⟩)
  · simpa [hi] using h
set_option maxRecDepth 65536 in
theorem w_c0 : (Jvm.Cond.code x code maxLocals ret).before args0 about1 = true := code_word (m := ⟨1, 1⟩) (meth := k1m1) (c := k1c1) (by decide +kernel) rfl rfl rfl (by decide +kernel)
set_option maxRecDepth 65536 in
theorem w_c1 : (Jvm.Cond.code ({ cls := "com/example/joinweave/joinweave/graph/UnionFind", name := "<init>", desc := "(I)V" } : Jvm.MethodName) prog_164_method_1_code (3 : Nat) (Option.none : Option Jvm.ClassFile.FieldType)).before args0 about1 = true := code_word (m := ⟨2, 0⟩) (meth := k2m0) (c := k2c0) (by decide +kernel) rfl rfl rfl (by decide +kernel)
set_option maxRecDepth 65536 in
theorem w_c2 : (Jvm.Cond.code ({ cls := "java/lang/Object", name := "<init>", desc := "()V" } : Jvm.MethodName) object_method_1_code (1 : Nat) (Option.none : Option Jvm.ClassFile.FieldType)).before args0 about1 = true := code_word (m := ⟨0, 0⟩) (meth := k0m0) (c := k0c0) (by decide +kernel) rfl rfl rfl (by decide +kernel)
set_option maxRecDepth 65536 in
theorem w_c3 : (Jvm.Cond.code ({ cls := "java/lang/Math", name := "max", desc := "(II)I" } : Jvm.MethodName) jdk_29_method_65_code (2 : Nat) (Option.some Jvm.ClassFile.FieldType.int)).before args0 about1 = true := code_word (m := ⟨3, 1⟩) (meth := k3m1) (c := k3c1) (by decide +kernel) rfl rfl rfl (by decide +kernel)
set_option maxRecDepth 65536 in
theorem w_c4 : (Jvm.Cond.code ({ cls := "com/example/joinweave/joinweave/graph/UnionFind", name := "union", desc := "(II)Z" } : Jvm.MethodName) prog_164_method_3_code (6 : Nat) (Option.some Jvm.ClassFile.FieldType.boolean)).before args0 about1 = true := code_word (m := ⟨2, 2⟩) (meth := k2m2) (c := k2c2) (by decide +kernel) rfl rfl rfl (by decide +kernel)
set_option maxRecDepth 65536 in
theorem w_c5 : (Jvm.Cond.code ({ cls := "com/example/joinweave/joinweave/graph/UnionFind", name := "find", desc := "(I)I" } : Jvm.MethodName) prog_164_method_2_code (3 : Nat) (Option.some Jvm.ClassFile.FieldType.int)).before args0 about1 = true := code_word (m := ⟨2, 1⟩) (meth := k2m1) (c := k2c1) (by decide +kernel) rfl rfl rfl (by decide +kernel)
set_option maxRecDepth 65536 in
theorem w_c6 : (Jvm.Cond.code ({ cls := "com/example/joinweave/joinweave/graph/UnionFind", name := "undo", desc := "()V" } : Jvm.MethodName) prog_164_method_4_code (2 : Nat) (Option.none : Option Jvm.ClassFile.FieldType)).before args0 about1 = true := code_word (m := ⟨2, 3⟩) (meth := k2m3) (c := k2c3) (by decide +kernel) rfl rfl rfl (by decide +kernel)
set_option maxRecDepth 65536 in
theorem w_c7 : (Jvm.Cond.code ({ cls := "com/example/joinweave/joinweave/graph/UnionFind", name := "sets", desc := "()I" } : Jvm.MethodName) prog_164_method_5_code (1 : Nat) (Option.some Jvm.ClassFile.FieldType.int)).before args0 about1 = true := code_word (m := ⟨2, 4⟩) (meth := k2m4) (c := k2c4) (by decide +kernel) rfl rfl rfl (by decide +kernel)
def codes1 : List Jvm.Cond := [Jvm.Cond.code x code maxLocals ret, Jvm.Cond.code ({ cls := "com/example/joinweave/joinweave/graph/UnionFind", name := "<init>", desc := "(I)V" } : Jvm.MethodName) prog_164_method_1_code (3 : Nat) (Option.none : Option Jvm.ClassFile.FieldType), Jvm.Cond.code ({ cls := "java/lang/Object", name := "<init>", desc := "()V" } : Jvm.MethodName) object_method_1_code (1 : Nat) (Option.none : Option Jvm.ClassFile.FieldType), Jvm.Cond.code ({ cls := "java/lang/Math", name := "max", desc := "(II)I" } : Jvm.MethodName) jdk_29_method_65_code (2 : Nat) (Option.some Jvm.ClassFile.FieldType.int), Jvm.Cond.code ({ cls := "com/example/joinweave/joinweave/graph/UnionFind", name := "union", desc := "(II)Z" } : Jvm.MethodName) prog_164_method_3_code (6 : Nat) (Option.some Jvm.ClassFile.FieldType.boolean), Jvm.Cond.code ({ cls := "com/example/joinweave/joinweave/graph/UnionFind", name := "find", desc := "(I)I" } : Jvm.MethodName) prog_164_method_2_code (3 : Nat) (Option.some Jvm.ClassFile.FieldType.int), Jvm.Cond.code ({ cls := "com/example/joinweave/joinweave/graph/UnionFind", name := "undo", desc := "()V" } : Jvm.MethodName) prog_164_method_4_code (2 : Nat) (Option.none : Option Jvm.ClassFile.FieldType), Jvm.Cond.code ({ cls := "com/example/joinweave/joinweave/graph/UnionFind", name := "sets", desc := "()I" } : Jvm.MethodName) prog_164_method_5_code (1 : Nat) (Option.some Jvm.ClassFile.FieldType.int)]
set_option maxRecDepth 65536 in
theorem codes_eq : words1.filter isCode = codes1 := rfl
theorem w_codes : ∀ c ∈ words1.filter isCode, c.before args0 about1 = true := by
  rw [codes_eq]
  intro c hc
  simp only [codes1, List.mem_cons, List.not_mem_nil, or_false] at hc
  rcases hc with rfl | rfl | rfl | rfl | rfl | rfl | rfl | rfl
  · exact w_c0
  · exact w_c1
  · exact w_c2
  · exact w_c3
  · exact w_c4
  · exact w_c5
  · exact w_c6
  · exact w_c7
set_option maxRecDepth 65536 in
theorem w_t1 : (words1.take 24).all (fun c => isCode c || c.before args0 about1) = true := by decide +kernel
set_option maxRecDepth 65536 in
theorem w_t2 : (words1.drop 24).all (fun c => isCode c || c.before args0 about1) = true := by decide +kernel
theorem w_tables : (allAtoms (Jvm.Cond.code x code maxLocals ret :: tables_1)).before args0 about1 = true := by
  rw [allAtoms_all]
  show words1.all (fun c => c.before args0 about1) = true
  refine all_split ?_ w_codes
  rw [← List.take_append_drop 24 words1, List.all_append, w_t1, w_t2]
  rfl
set_option maxRecDepth 65536 in
theorem w_case : (Jvm.Cond.and given_1 narrow_1).before args0 about1 = true := by decide +kernel
theorem w_applies : (headSpec (Jvm.Cond.code x code maxLocals ret :: tables_1) room_1).applies x e0.platform about1 = true :=
  (Spec.applies_iff w_frames).mpr ⟨w_running, w_runnable, w_alone, w_named, w_hears, w_ripe, w_room, w_tables⟩
theorem atStart : AtStart classFile x code maxLocals ret World_1 tables_1 room_1 Calls_1 rest_1 Pre_1 launch0 p0 e0 about1 theMethod args0 below0 :=
  ⟨lists_1, trivial, launch0.admits_env _ _ _, launch0.least_env, fairChoices_fair.cas, fairChoices_fair.clock, w_frames, w_args, w_heap, w_applies, trivial, trivial, w_case⟩
end start1
theorem witness_1 : WitnessClaimed_1 := ⟨start1.p0, start1.e0, start1.about1, start1.theMethod, start1.args0, start1.below0, start1.atStart⟩
end Jvm.Pilot.@@N@@
