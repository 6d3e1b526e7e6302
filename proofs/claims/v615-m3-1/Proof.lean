import JvmDerived
import JvmDerived.Pilot.@@N@@Statement
import JvmDerived.Pilot.@@N@@Code
set_option linter.unusedVariables false
set_option linter.unusedSimpArgs false
namespace Jvm.Pilot.@@N@@
open Jvm Jvm.ClassFile Sem Op Lib Jvm.Free Jvm.Stand Jvm.LawKit Jvm.RoadKit Bundle Jvm.Pilot.@@N@@.Jvm.D
/-! ## THE LAYER OF THIS SEAT (GoKit): one predicate 'Go': from this pc, these locals and this stack, over the heap h, with k cells and n slots made, the body ends as Q says -/
abbrev Noise : Type := Program × Launch × Env × State × MethodId × Array Value × List Frame × Method × Code
def Cx (E : Noise) (Z : State) (own nm : String) (bytes : ByteArray) (mx : Nat) (rt : Option FieldType) : Prop :=
  E.1.tables.exec = Jvm.exec ∧ E.2.2.2.2.2.2.2.2.code = bytes ∧ E.2.2.2.2.2.2.2.2.maxLocals = mx ∧ Z.Warmed39 E.2.2.2.1.vm ∧ E.2.2.2.1.vm.findClass own = some E.2.2.2.2.1.cls ∧ E.2.2.2.2.2.2.2.1.sig.returnType = rt ∧ E.2.2.2.2.2.2.2.1.locks = false ∧ E.2.2.2.2.2.2.2.1.name = nm
abbrev Sd (E : Noise) (R : Room) (T : State) (locs : List Loc) (k n : Nat) : Prop := Stand E.1 E.2.1 E.2.2.1 R E.2.2.2.1 E.2.2.2.2.1 E.2.2.2.2.2.1 E.2.2.2.2.2.2.1 E.2.2.2.2.2.2.2.1 E.2.2.2.2.2.2.2.2 T locs k n
abbrev Sp (E : Noise) (a b : State) : Prop := Steps E.1.tables E.2.2.1 E.2.2.2.2.2.2.1 a b
def Go (E : Noise) (R : Room) (n0 : Nat) (Q : Option Value → Heap → Prop) (h : Heap) (k n : Nat) (pc : Nat) (Ls : Array Slot) (st : List Value) : Prop :=
  ∀ (T : State) (locs : List Loc), Sd E R T locs k n → T.heap = h → Fr n0 locs →
    ∃ s₂ o, Sp E (T.setTop (mkF E.2.2.2.2.1 pc Ls st)) s₂ ∧ s₂.status = .running ∧ Ended s₂ E.2.2.2.2.2.2.1 o ∧ ∃ v L, o = .returned v ∧ (Q v s₂.heap ∧ Fr n0 L) ∧ FrameEnd E.2.2.2.1 o s₂ L R.cells R.slots
def Met (Z : State) (y : MethodName) (bytes : ByteArray) (mx : Nat) (rt : Option FieldType) (R : Room) (as : Array Value) (h0 : Heap) (n0 : Nat) (Q : Option Value → Heap → Prop) : Prop :=
  ∀ (l : Launch) (ws : List Jvm.Cond), MetFree l y (head1 (Jvm.Cond.code y bytes mx rt :: ws) R) (fun a U => a = as ∧ Z.Warmed39 U.vm ∧ U.heap = h0) (fun _ _ _ _ _ => True)
    (fun _ U o U' => ∃ v L, o = .returned v ∧ (Q v U'.heap ∧ Fr n0 L) ∧ FrameEnd U o U' L R.cells R.slots)
section GoKit
variable {E : Noise} {Z : State} {own nm : String} {bytes : ByteArray} {mx : Nat} {rt : Option FieldType} {R : Room} {n0 : Nat} {Q : Option Value → Heap → Prop} {h : Heap} {k n : Nat} {pc pc' : Nat} {Ls Ls' : Array Slot} {st rest : List Value} {a0 : Array Value}
theorem own_w {i : Nat} {d : Jvm.Cond} (hw : ∀ d ∈ tables_1, d.before a0 Z = true) (q : tables_1[i]? = some d) : d.before a0 Z = true := hw _ (List.mem_of_getElem? q)
theorem nne {x y : Nat} (q : x ≠ y) : @Ne Jvm.Addr x y := q
theorem nnS {x y : Nat} {L : List Nat} (q : x ≠ y) (r : x ∉ L) : x ∉ y :: L := ninS q r
theorem exa_lt {a : Nat} {K : String} (F : Exa Z h a K) : a < h.size := F.lt
theorem keep_wr {h0 h' : Heap} {ws : List Nat} {a sl : Nat} {v : Value} (K : Keep h0 h ws) (W : Wr h h' a sl v) (q : h0.size ≤ a) : Keep h0 h' ws := K.wr W (Or.inr q)
theorem met_of {y : MethodName} {as : Array Value} {h0 : Heap} (hpn : plainFor y = true) (hent : ∀ m, entryFrame m as mx = mkF m 0 Ls [])
    (H : ∀ E : Noise, Cx E Z y.cls y.name bytes mx rt → Go E R n0 Q h0 0 0 0 Ls []) : Met Z y bytes mx rt R as h0 n0 Q := by
  intro l ws
  refine MetFree.of_bodySF hpn hisR ?_
  intro p e s m args below meth c s₁ Bd hml0 hP hK
  obtain ⟨rfl, hZ, hh⟩ := hP
  have hown : s.vm.findClass y.cls = some m.cls := findClass_of_methodNamed Bd.named
  have X0 : Stand p l e R s m args below meth c s₁ [] 0 0 := Stand.of_body Bd
  have e0 : s₁.heap = h0 := by rw [← hh, Bd.state]; rfl
  obtain ⟨s₂, o, q1, q2, q3, q4⟩ := H (p, l, e, s, m, args, below, meth, c) ⟨Bd.exec, Bd.bytes, hml0, hZ, hown, Bd.returns, Bd.notSynchronized, (name_of_methodNamed Bd.named Bd.method).1⟩ s₁ [] X0 e0 (Fr.nil n0)
  exact ⟨s₂, o, castTop (hent m) q1, q2, q3, q4⟩
theorem go_step (H : Go E R n0 Q h k n pc' Ls' rest) (f : ∀ T locs target, Sd E R T locs k n → T.heap = h → Sp E (T.setTop (mkF E.2.2.2.2.1 pc' Ls' rest)) target → Sp E (T.setTop (mkF E.2.2.2.2.1 pc Ls st)) target) : Go E R n0 Q h k n pc Ls st := fun T locs X hh N => by
  obtain ⟨s₂, o, q1, q⟩ := H T locs X hh N
  exact ⟨s₂, o, f T locs s₂ X hh q1, q⟩
theorem go_more {k' n' : Nat} (hk : k ≤ k') (hn : n ≤ n') (H : Go E R n0 Q h k' n' pc Ls st) : Go E R n0 Q h k n pc Ls st := fun T locs X hh N => H T locs (X.more hk hn) hh N
theorem go_aloadN (C : Cx E Z own nm bytes mx rt) {i : Fin 4} {v : Value} (hd : decode bytes pc = .ok (.aload_n i, 1)) (hl : Ls[i.val]? = some (.val v)) (hv : v.isRef = true) (hp : pc + 1 = pc') (H : Go E R n0 Q h k n pc' Ls (v :: st)) : Go E R n0 Q h k n pc Ls st := by
  subst hp; exact go_step H fun T locs t X _ q => XS.aloadN X.here C.1 rfl (hb C.2.1 hd) hl hv q
theorem go_aload (C : Cx E Z own nm bytes mx rt) {i : Nat} {v : Value} (hd : decode bytes pc = .ok (.aload i, 2)) (hl : Ls[i]? = some (.val v)) (hv : v.isRef = true) (hp : pc + 2 = pc') (H : Go E R n0 Q h k n pc' Ls (v :: st)) : Go E R n0 Q h k n pc Ls st := by
  subst hp; exact go_step H fun T locs t X _ q => XS.aload X.here C.1 rfl (hb C.2.1 hd) hl hv q
theorem go_iloadN (C : Cx E Z own nm bytes mx rt) {i : Fin 4} {v : Int32} (hd : decode bytes pc = .ok (.iload_n i, 1)) (hl : Ls[i.val]? = some (.val (.int v))) (hp : pc + 1 = pc') (H : Go E R n0 Q h k n pc' Ls (.int v :: st)) : Go E R n0 Q h k n pc Ls st := by
  subst hp; exact go_step H fun T locs t X _ q => XS.iloadN X.here C.1 rfl (hb C.2.1 hd) hl q
theorem go_iload (C : Cx E Z own nm bytes mx rt) {i : Nat} {v : Int32} (hd : decode bytes pc = .ok (.iload i, 2)) (hl : Ls[i]? = some (.val (.int v))) (hp : pc + 2 = pc') (H : Go E R n0 Q h k n pc' Ls (.int v :: st)) : Go E R n0 Q h k n pc Ls st := by
  subst hp; exact go_step H fun T locs t X _ q => XS.iload X.here C.1 rfl (hb C.2.1 hd) hl q
theorem go_lloadN (C : Cx E Z own nm bytes mx rt) {i : Fin 4} {v : Int64} (hd : decode bytes pc = .ok (.lload_n i, 1)) (hl : Ls[i.val]? = some (.val (.long v))) (hp : pc + 1 = pc') (H : Go E R n0 Q h k n pc' Ls (.long v :: st)) : Go E R n0 Q h k n pc Ls st := by
  subst hp; exact go_step H fun T locs t X _ q => XT.lloadN X.here C.1 rfl (hb C.2.1 hd) hl q
theorem go_lload (C : Cx E Z own nm bytes mx rt) {i : Nat} {v : Int64} (hd : decode bytes pc = .ok (.lload i, 2)) (hl : Ls[i]? = some (.val (.long v))) (hp : pc + 2 = pc') (H : Go E R n0 Q h k n pc' Ls (.long v :: st)) : Go E R n0 Q h k n pc Ls st := by
  subst hp; exact go_step H fun T locs t X _ q => XT.lload X.here C.1 rfl (hb C.2.1 hd) hl q
theorem go_iconst (C : Cx E Z own nm bytes mx rt) {i : Int} {z : Int32} (hd : decode bytes pc = .ok (.iconst i, 1)) (hz : Int32.ofInt i = z) (hp : pc + 1 = pc') (H : Go E R n0 Q h k n pc' Ls (.int z :: st)) : Go E R n0 Q h k n pc Ls st := by
  subst hp hz; exact go_step H fun T locs t X _ q => XS.iconst X.here C.1 rfl (hb C.2.1 hd) q
theorem go_lconst (C : Cx E Z own nm bytes mx rt) {i : Fin 2} {z : Int64} (hd : decode bytes pc = .ok (.lconst i, 1)) (hz : Int64.ofNat i = z) (hp : pc + 1 = pc') (H : Go E R n0 Q h k n pc' Ls (.long z :: st)) : Go E R n0 Q h k n pc Ls st := by
  subst hp hz; exact go_step H fun T locs t X _ q => XT.lconst X.here C.1 rfl (hb C.2.1 hd) q
theorem go_bipush (C : Cx E Z own nm bytes mx rt) {i : Int} {z : Int32} (hd : decode bytes pc = .ok (.bipush i, 2)) (hz : (Int8.ofInt i).toInt32 = z) (hp : pc + 2 = pc') (H : Go E R n0 Q h k n pc' Ls (.int z :: st)) : Go E R n0 Q h k n pc Ls st := by
  subst hp hz; exact go_step H fun T locs t X _ q => XS.bipush X.here C.1 rfl (hb C.2.1 hd) q
theorem go_sipush (C : Cx E Z own nm bytes mx rt) {i : Int} {z : Int32} (hd : decode bytes pc = .ok (.sipush i, 3)) (hz : (Int16.ofInt i).toInt32 = z) (hp : pc + 3 = pc') (H : Go E R n0 Q h k n pc' Ls (.int z :: st)) : Go E R n0 Q h k n pc Ls st := by
  subst hp hz; exact go_step H fun T locs t X _ q => XS.sipush X.here C.1 rfl (hb C.2.1 hd) q
theorem go_aconstNull (C : Cx E Z own nm bytes mx rt) (hd : decode bytes pc = .ok (.aconst_null, 1)) (hp : pc + 1 = pc') (H : Go E R n0 Q h k n pc' Ls (.null :: st)) : Go E R n0 Q h k n pc Ls st := by
  subst hp; exact go_step H fun T locs t X _ q => XS.aconstNull X.here C.1 rfl (hb C.2.1 hd) q
theorem go_ldc (C : Cx E Z own nm bytes mx rt) {i : Nat} {z : Int32} (hd : decode bytes pc = .ok (.ldc i, 2)) (w1 : (Cond.constant own i z).before a0 Z = true) (hp : pc + 2 = pc') (H : Go E R n0 Q h k n pc' Ls (.int z :: st)) : Go E R n0 Q h k n pc Ls st := by
  subst hp; exact go_step H fun T locs t X _ q => X.ldcInt C.1 C.2.2.2.2.1 (mvT C.2.2.2.1 w1) (g := mkF _ pc Ls st) rfl (hb C.2.1 hd) t q
theorem go_ldc2L (C : Cx E Z own nm bytes mx rt) {i : Nat} {z : Int64} (hd : decode bytes pc = .ok (.ldc2_w i, 3)) (w1 : (Cond.constantLong own i z).before a0 Z = true) (hp : pc + 3 = pc') (H : Go E R n0 Q h k n pc' Ls (.long z :: st)) : Go E R n0 Q h k n pc Ls st := by
  subst hp; exact go_step H fun T locs t X _ q => X.ldc2Long C.1 C.2.2.2.2.1 (mvT C.2.2.2.1 w1) (g := mkF _ pc Ls st) rfl (hb C.2.1 hd) t q
theorem go_istoreN (C : Cx E Z own nm bytes mx rt) {i : Fin 4} {x : Int32} (hd : decode bytes pc = .ok (.istore_n i, 1)) (hl : storeLocals Ls i.val (.int x) = some Ls') (hp : pc + 1 = pc') (H : Go E R n0 Q h k n pc' Ls' st) : Go E R n0 Q h k n pc Ls (.int x :: st) := by
  subst hp; exact go_step H fun T locs t X _ q => XS.istoreN X.here C.1 rfl (hb C.2.1 hd) rfl hl q
theorem go_istore (C : Cx E Z own nm bytes mx rt) {i : Nat} {x : Int32} (hd : decode bytes pc = .ok (.istore i, 2)) (hl : storeLocals Ls i (.int x) = some Ls') (hp : pc + 2 = pc') (H : Go E R n0 Q h k n pc' Ls' st) : Go E R n0 Q h k n pc Ls (.int x :: st) := by
  subst hp; exact go_step H fun T locs t X _ q => XS.istore X.here C.1 rfl (hb C.2.1 hd) rfl hl q
theorem go_astoreN (C : Cx E Z own nm bytes mx rt) {i : Fin 4} {x : Value} (hd : decode bytes pc = .ok (.astore_n i, 1)) (hv : x.isRef = true) (hl : storeLocals Ls i.val x = some Ls') (hp : pc + 1 = pc') (H : Go E R n0 Q h k n pc' Ls' st) : Go E R n0 Q h k n pc Ls (x :: st) := by
  subst hp; exact go_step H fun T locs t X _ q => XS.astoreN X.here C.1 rfl (hb C.2.1 hd) rfl hv hl q
theorem go_astore (C : Cx E Z own nm bytes mx rt) {i : Nat} {x : Value} (hd : decode bytes pc = .ok (.astore i, 2)) (hv : x.isRef = true) (hl : storeLocals Ls i x = some Ls') (hp : pc + 2 = pc') (H : Go E R n0 Q h k n pc' Ls' st) : Go E R n0 Q h k n pc Ls (x :: st) := by
  subst hp; exact go_step H fun T locs t X _ q => XS.astore X.here C.1 rfl (hb C.2.1 hd) rfl hv hl q
theorem go_lstoreN (C : Cx E Z own nm bytes mx rt) {i : Fin 4} {x : Int64} (hd : decode bytes pc = .ok (.lstore_n i, 1)) (hl : storeLocals Ls i.val (.long x) = some Ls') (hp : pc + 1 = pc') (H : Go E R n0 Q h k n pc' Ls' st) : Go E R n0 Q h k n pc Ls (.long x :: st) := by
  subst hp; exact go_step H fun T locs t X _ q => XT.lstoreN X.here C.1 rfl (hb C.2.1 hd) rfl hl q
theorem go_lstore (C : Cx E Z own nm bytes mx rt) {i : Nat} {x : Int64} (hd : decode bytes pc = .ok (.lstore i, 2)) (hl : storeLocals Ls i (.long x) = some Ls') (hp : pc + 2 = pc') (H : Go E R n0 Q h k n pc' Ls' st) : Go E R n0 Q h k n pc Ls (.long x :: st) := by
  subst hp; exact go_step H fun T locs t X _ q => XT.lstore X.here C.1 rfl (hb C.2.1 hd) rfl hl q
theorem go_iinc (C : Cx E Z own nm bytes mx rt) {i : Nat} {d : Int} {x z : Int32} (hd : decode bytes pc = .ok (.iinc i d, 3)) (hl : Ls[i]? = some (.val (.int x))) (hz : Int32.ofInt d = z) (hl' : storeLocals Ls i (.int (x + z)) = some Ls') (hp : pc + 3 = pc') (H : Go E R n0 Q h k n pc' Ls' st) : Go E R n0 Q h k n pc Ls st := by
  subst hp hz; exact go_step H fun T locs t X _ q => XS.iinc X.here C.1 rfl (hb C.2.1 hd) hl hl' q
theorem go_dup (C : Cx E Z own nm bytes mx rt) {x : Value} (hd : decode bytes pc = .ok (.dup, 1)) (hc : x.category = 1) (hp : pc + 1 = pc') (H : Go E R n0 Q h k n pc' Ls (x :: x :: st)) : Go E R n0 Q h k n pc Ls (x :: st) := by
  subst hp; exact go_step H fun T locs t X _ q => XS.dup X.here C.1 rfl (hb C.2.1 hd) rfl hc q
theorem go_dupX1 (C : Cx E Z own nm bytes mx rt) {x y : Value} (hd : decode bytes pc = .ok (.dup_x1, 1)) (hc : x.category = 1) (hc' : y.category = 1) (hp : pc + 1 = pc') (H : Go E R n0 Q h k n pc' Ls (x :: y :: x :: st)) : Go E R n0 Q h k n pc Ls (x :: y :: st) := by
  subst hp; exact go_step H fun T locs t X _ q => XT.dupX1 X.here C.1 rfl (hb C.2.1 hd) rfl hc hc' q
theorem go_dup2 (C : Cx E Z own nm bytes mx rt) {x y : Value} (hd : decode bytes pc = .ok (.dup2, 1)) (hc : x.category = 1) (hc' : y.category = 1) (hp : pc + 1 = pc') (H : Go E R n0 Q h k n pc' Ls (x :: y :: x :: y :: st)) : Go E R n0 Q h k n pc Ls (x :: y :: st) := by
  subst hp; exact go_step H fun T locs t X _ q => XT.dup2 X.here C.1 rfl (hb C.2.1 hd) rfl hc hc' q
theorem go_pop (C : Cx E Z own nm bytes mx rt) {x : Value} (hd : decode bytes pc = .ok (.pop, 1)) (hc : x.category = 1) (hp : pc + 1 = pc') (H : Go E R n0 Q h k n pc' Ls st) : Go E R n0 Q h k n pc Ls (x :: st) := by
  subst hp; exact go_step H fun T locs t X _ q => XT.pop X.here C.1 rfl (hb C.2.1 hd) rfl hc q
theorem go_iadd (C : Cx E Z own nm bytes mx rt) {x y : Int32} (hd : decode bytes pc = .ok (.iadd, 1)) (hp : pc + 1 = pc') (H : Go E R n0 Q h k n pc' Ls (.int (x + y) :: st)) : Go E R n0 Q h k n pc Ls (.int y :: .int x :: st) := by
  subst hp; exact go_step H fun T locs t X _ q => XS.iadd X.here C.1 rfl (hb C.2.1 hd) rfl q
theorem go_isub (C : Cx E Z own nm bytes mx rt) {x y : Int32} (hd : decode bytes pc = .ok (.isub, 1)) (hp : pc + 1 = pc') (H : Go E R n0 Q h k n pc' Ls (.int (x - y) :: st)) : Go E R n0 Q h k n pc Ls (.int y :: .int x :: st) := by
  subst hp; exact go_step H fun T locs t X _ q => XS.isub X.here C.1 rfl (hb C.2.1 hd) rfl q
theorem go_imul (C : Cx E Z own nm bytes mx rt) {x y : Int32} (hd : decode bytes pc = .ok (.imul, 1)) (hp : pc + 1 = pc') (H : Go E R n0 Q h k n pc' Ls (.int (x * y) :: st)) : Go E R n0 Q h k n pc Ls (.int y :: .int x :: st) := by
  subst hp; exact go_step H fun T locs t X _ q => XS.imul X.here C.1 rfl (hb C.2.1 hd) rfl q
theorem go_irem (C : Cx E Z own nm bytes mx rt) {x y : Int32} (hd : decode bytes pc = .ok (.irem, 1)) (hy : y ≠ 0) (hp : pc + 1 = pc') (H : Go E R n0 Q h k n pc' Ls (.int (x % y) :: st)) : Go E R n0 Q h k n pc Ls (.int y :: .int x :: st) := by
  subst hp; exact go_step H fun T locs t X _ q => iremM X C.1 rfl (hb C.2.1 hd) rfl hy q
theorem go_iand (C : Cx E Z own nm bytes mx rt) {x y : Int32} (hd : decode bytes pc = .ok (.iand, 1)) (hp : pc + 1 = pc') (H : Go E R n0 Q h k n pc' Ls (.int (x &&& y) :: st)) : Go E R n0 Q h k n pc Ls (.int y :: .int x :: st) := by
  subst hp; exact go_step H fun T locs t X _ q => XS.iand X.here C.1 rfl (hb C.2.1 hd) rfl q
theorem go_ior (C : Cx E Z own nm bytes mx rt) {x y : Int32} (hd : decode bytes pc = .ok (.ior, 1)) (hp : pc + 1 = pc') (H : Go E R n0 Q h k n pc' Ls (.int (x ||| y) :: st)) : Go E R n0 Q h k n pc Ls (.int y :: .int x :: st) := by
  subst hp; exact go_step H fun T locs t X _ q => XT.ior X.here C.1 rfl (hb C.2.1 hd) rfl q
theorem go_ishl (C : Cx E Z own nm bytes mx rt) {x y : Int32} (hd : decode bytes pc = .ok (.ishl, 1)) (hp : pc + 1 = pc') (H : Go E R n0 Q h k n pc' Ls (.int (x <<< (y &&& 31)) :: st)) : Go E R n0 Q h k n pc Ls (.int y :: .int x :: st) := by
  subst hp; exact go_step H fun T locs t X _ q => XT.ishl X.here C.1 rfl (hb C.2.1 hd) rfl q
theorem go_ishr (C : Cx E Z own nm bytes mx rt) {x y : Int32} (hd : decode bytes pc = .ok (.ishr, 1)) (hp : pc + 1 = pc') (H : Go E R n0 Q h k n pc' Ls (.int (x >>> (y &&& 31)) :: st)) : Go E R n0 Q h k n pc Ls (.int y :: .int x :: st) := by
  subst hp; exact go_step H fun T locs t X _ q => XT.ishr X.here C.1 rfl (hb C.2.1 hd) rfl q
theorem go_iushr (C : Cx E Z own nm bytes mx rt) {x y : Int32} (hd : decode bytes pc = .ok (.iushr, 1)) (hp : pc + 1 = pc') (H : Go E R n0 Q h k n pc' Ls (.int (XT.ushr x y) :: st)) : Go E R n0 Q h k n pc Ls (.int y :: .int x :: st) := by
  subst hp; exact go_step H fun T locs t X _ q => XT.iushr X.here C.1 rfl (hb C.2.1 hd) rfl q
theorem go_lmul (C : Cx E Z own nm bytes mx rt) {x y : Int64} (hd : decode bytes pc = .ok (.lmul, 1)) (hp : pc + 1 = pc') (H : Go E R n0 Q h k n pc' Ls (.long (x * y) :: st)) : Go E R n0 Q h k n pc Ls (.long y :: .long x :: st) := by
  subst hp; exact go_step H fun T locs t X _ q => XT.lmul X.here C.1 rfl (hb C.2.1 hd) rfl q
theorem go_land (C : Cx E Z own nm bytes mx rt) {x y : Int64} (hd : decode bytes pc = .ok (.land, 1)) (hp : pc + 1 = pc') (H : Go E R n0 Q h k n pc' Ls (.long (x &&& y) :: st)) : Go E R n0 Q h k n pc Ls (.long y :: .long x :: st) := by
  subst hp; exact go_step H fun T locs t X _ q => XT.land X.here C.1 rfl (hb C.2.1 hd) rfl q
theorem go_lushr (C : Cx E Z own nm bytes mx rt) {x : Int64} {y : Int32} (hd : decode bytes pc = .ok (.lushr, 1)) (hp : pc + 1 = pc') (H : Go E R n0 Q h k n pc' Ls (.long (XT.ushrL x y) :: st)) : Go E R n0 Q h k n pc Ls (.int y :: .long x :: st) := by
  subst hp; exact go_step H fun T locs t X _ q => XT.lushr X.here C.1 rfl (hb C.2.1 hd) rfl q
theorem go_ldiv (C : Cx E Z own nm bytes mx rt) {x y : Int64} (hd : decode bytes pc = .ok (.ldiv, 1)) (hy : y ≠ 0) (hp : pc + 1 = pc') (H : Go E R n0 Q h k n pc' Ls (.long (x / y) :: st)) : Go E R n0 Q h k n pc Ls (.long y :: .long x :: st) := by
  subst hp; exact go_step H fun T locs t X _ q => XT.ldiv X.here C.1 rfl (hb C.2.1 hd) rfl hy q
theorem go_lrem (C : Cx E Z own nm bytes mx rt) {x y : Int64} (hd : decode bytes pc = .ok (.lrem, 1)) (hy : y ≠ 0) (hp : pc + 1 = pc') (H : Go E R n0 Q h k n pc' Ls (.long (x % y) :: st)) : Go E R n0 Q h k n pc Ls (.long y :: .long x :: st) := by
  subst hp; rw [← lrem_mod] at H; exact go_step H fun T locs t X _ q => XT.lrem X.here C.1 rfl (hb C.2.1 hd) rfl hy q
theorem go_i2l (C : Cx E Z own nm bytes mx rt) {x : Int32} (hd : decode bytes pc = .ok (.i2l, 1)) (hp : pc + 1 = pc') (H : Go E R n0 Q h k n pc' Ls (.long x.toInt64 :: st)) : Go E R n0 Q h k n pc Ls (.int x :: st) := by
  subst hp; exact go_step H fun T locs t X _ q => XT.i2l X.here C.1 rfl (hb C.2.1 hd) rfl q
theorem go_lcmp (C : Cx E Z own nm bytes mx rt) {x y : Int64} (hd : decode bytes pc = .ok (.lcmp, 1)) (hp : pc + 1 = pc') (H : Go E R n0 Q h k n pc' Ls (.int (XT.cmpL x y) :: st)) : Go E R n0 Q h k n pc Ls (.long y :: .long x :: st) := by
  subst hp; exact go_step H fun T locs t X _ q => XT.lcmp X.here C.1 rfl (hb C.2.1 hd) rfl q
theorem go_goto (C : Cx E Z own nm bytes mx rt) {o : Int} (hd : decode bytes pc = .ok (.goto o, 3)) (ho : 0 ≤ (pc : Int) + o) (hp : ((pc : Int) + o).toNat = pc') (H : Go E R n0 Q h k n pc' Ls st) : Go E R n0 Q h k n pc Ls st :=
  go_step H fun T locs t X _ q => XS.goto X.here C.1 rfl rfl (hb C.2.1 hd) ho hp q
theorem go_ifY (C : Cx E Z own nm bytes mx rt) {cd : ClassFile.Cond} {x : Int32} {o : Int} (hd : decode bytes pc = .ok (.ifCond cd o, 3)) (hc : ifCond.holds cd x = true) (ho : 0 ≤ (pc : Int) + o) (hp : ((pc : Int) + o).toNat = pc') (H : Go E R n0 Q h k n pc' Ls st) : Go E R n0 Q h k n pc Ls (.int x :: st) :=
  go_step H fun T locs t X _ q => XS.ifYes X.here C.1 rfl rfl (hb C.2.1 hd) rfl hc ho hp q
theorem go_ifN (C : Cx E Z own nm bytes mx rt) {cd : ClassFile.Cond} {x : Int32} {o : Int} (hd : decode bytes pc = .ok (.ifCond cd o, 3)) (hc : ifCond.holds cd x = false) (hp : pc + 3 = pc') (H : Go E R n0 Q h k n pc' Ls st) : Go E R n0 Q h k n pc Ls (.int x :: st) := by
  subst hp; exact go_step H fun T locs t X _ q => XS.ifNo X.here C.1 rfl (hb C.2.1 hd) rfl hc q
theorem go_icY (C : Cx E Z own nm bytes mx rt) {cd : ClassFile.Cond} {x y : Int32} {o : Int} (hd : decode bytes pc = .ok (.if_icmp cd o, 3)) (hc : if_icmp.holds cd x y = true) (ho : 0 ≤ (pc : Int) + o) (hp : ((pc : Int) + o).toNat = pc') (H : Go E R n0 Q h k n pc' Ls st) : Go E R n0 Q h k n pc Ls (.int y :: .int x :: st) :=
  go_step H fun T locs t X _ q => XS.icmpYes X.here C.1 rfl rfl (hb C.2.1 hd) rfl hc ho hp q
theorem go_icN (C : Cx E Z own nm bytes mx rt) {cd : ClassFile.Cond} {x y : Int32} {o : Int} (hd : decode bytes pc = .ok (.if_icmp cd o, 3)) (hc : if_icmp.holds cd x y = false) (hp : pc + 3 = pc') (H : Go E R n0 Q h k n pc' Ls st) : Go E R n0 Q h k n pc Ls (.int y :: .int x :: st) := by
  subst hp; exact go_step H fun T locs t X _ q => XS.icmpNo X.here C.1 rfl (hb C.2.1 hd) rfl hc q
/-- what a comparison asks, as a proposition -/
def rel : ClassFile.Cond → Int32 → Int32 → Prop
  | .eq, x, y => x.toInt = y.toInt
  | .ne, x, y => ¬ x.toInt = y.toInt
  | .lt, x, y => x.toInt < y.toInt
  | .ge, x, y => y.toInt ≤ x.toInt
  | .gt, x, y => y.toInt < x.toInt
  | .le, x, y => x.toInt ≤ y.toInt
theorem rel_holds (cd : ClassFile.Cond) (x y : Int32) : if_icmp.holds cd x y = true ↔ rel cd x y := by
  cases cd <;> simp [if_icmp.holds, rel, Int32.lt_iff_toInt_lt, Int32.le_iff_toInt_le, Int32.toInt_inj]
theorem rel_holds0 (cd : ClassFile.Cond) (x : Int32) : ifCond.holds cd x = true ↔ rel cd x 0 := by rw [if0]; exact rel_holds cd x 0
/-- both ways of a comparison -/
theorem go_ic (C : Cx E Z own nm bytes mx rt) {cd : ClassFile.Cond} {x y : Int32} {o : Int} {pcY pcN : Nat} (hd : decode bytes pc = .ok (.if_icmp cd o, 3)) (ho : 0 ≤ (pc : Int) + o) (hpY : ((pc : Int) + o).toNat = pcY) (hpN : pc + 3 = pcN)
    (HY : rel cd x y → Go E R n0 Q h k n pcY Ls st) (HN : ¬ rel cd x y → Go E R n0 Q h k n pcN Ls st) : Go E R n0 Q h k n pc Ls (.int y :: .int x :: st) := by
  cases q : if_icmp.holds cd x y with
  | true => exact go_icY C hd q ho hpY (HY ((rel_holds cd x y).mp q))
  | false => exact go_icN C hd q hpN (HN fun r => by rw [(rel_holds cd x y).mpr r] at q; cases q)
theorem go_if (C : Cx E Z own nm bytes mx rt) {cd : ClassFile.Cond} {x : Int32} {o : Int} {pcY pcN : Nat} (hd : decode bytes pc = .ok (.ifCond cd o, 3)) (ho : 0 ≤ (pc : Int) + o) (hpY : ((pc : Int) + o).toNat = pcY) (hpN : pc + 3 = pcN)
    (HY : rel cd x 0 → Go E R n0 Q h k n pcY Ls st) (HN : ¬ rel cd x 0 → Go E R n0 Q h k n pcN Ls st) : Go E R n0 Q h k n pc Ls (.int x :: st) := by
  cases q : ifCond.holds cd x with
  | true => exact go_ifY C hd q ho hpY (HY ((rel_holds0 cd x).mp q))
  | false => exact go_ifN C hd q hpN (HN fun r => by rw [(rel_holds0 cd x).mpr r] at q; cases q)
/-! the ends -/
theorem go_end {v : Option Value} (hr : ∀ T locs, Sd E R T locs k n → ∀ fs, (∀ (f : JFrame) (acts : List Action), f.method = E.2.2.2.2.1 → f.locked = none → f.entered = [] → (doReturn E.2.2.1 (T.setTop f) acts v).1 = T.setFrames fs) → Sp E (T.setTop (mkF E.2.2.2.2.1 pc Ls st)) (T.setFrames fs))
    (hlk : E.2.2.2.2.2.2.2.1.locks = false) (hv : E.2.2.2.2.2.2.2.1.sig.returnType = none → v = none) (hk : k ≤ R.cells) (hn : n ≤ R.slots) (hQ : Q v h) : Go E R n0 Q h k n pc Ls st := fun T locs X hh N => by
  obtain ⟨fs, q1, q2, q3, q4, q5⟩ := X.leave (v := v) hv hlk
  exact ⟨_, _, hr T locs X fs q1, q2, q3, _, _, rfl, ⟨by show Q v T.heap; rw [hh]; exact hQ, N⟩, ⟨_, rfl⟩, q4, q5.mono hk hn⟩
theorem go_retI (C : Cx E Z own nm bytes mx (some .int)) {z : Int32} (hd : decode bytes pc = .ok (.ireturn, 1)) (hk : k ≤ R.cells) (hn : n ≤ R.slots) (hQ : Q (some (.int z)) h) : Go E R n0 Q h k n pc Ls (.int z :: st) :=
  go_end (fun T locs X fs hl => retOut X C.1 (w := .int z) (t := .int) C.2.2.2.2.2.1 rfl (Or.inl ⟨rfl, Or.inl rfl, _, rfl⟩) (hb C.2.1 hd) hl) C.2.2.2.2.2.2.1 (fun q => by rw [C.2.2.2.2.2.1] at q; cases q) hk hn hQ
theorem go_retZ (C : Cx E Z own nm bytes mx (some .boolean)) {z : Int32} (hd : decode bytes pc = .ok (.ireturn, 1)) (hz : z = 0 ∨ z = 1) (hk : k ≤ R.cells) (hn : n ≤ R.slots) (hQ : Q (some (.int z)) h) : Go E R n0 Q h k n pc Ls (.int z :: st) :=
  go_end (fun T locs X fs hl => retOut X C.1 (w := .int z) (t := .boolean) C.2.2.2.2.2.1 (by rcases hz with rfl | rfl <;> rfl) (Or.inl ⟨rfl, Or.inr (Or.inl rfl), _, rfl⟩) (hb C.2.1 hd) hl) C.2.2.2.2.2.2.1 (fun q => by rw [C.2.2.2.2.2.1] at q; cases q) hk hn hQ
theorem go_retL (C : Cx E Z own nm bytes mx (some .long)) {z : Int64} (hd : decode bytes pc = .ok (.lreturn, 1)) (hk : k ≤ R.cells) (hn : n ≤ R.slots) (hQ : Q (some (.long z)) h) : Go E R n0 Q h k n pc Ls (.long z :: st) :=
  go_end (fun T locs X fs hl => retOut X C.1 (w := .long z) (t := .long) C.2.2.2.2.2.1 rfl (Or.inr (Or.inl ⟨rfl, rfl, _, rfl⟩)) (hb C.2.1 hd) hl) C.2.2.2.2.2.2.1 (fun q => by rw [C.2.2.2.2.2.1] at q; cases q) hk hn hQ
theorem go_retA {t : FieldType} (C : Cx E Z own nm bytes mx (some t)) {w : Value} (hd : decode bytes pc = .ok (.areturn, 1)) (ht : t.isReference = true) (hw : w.isRef = true) (hnw : narrow t w = w) (hk : k ≤ R.cells) (hn : n ≤ R.slots) (hQ : Q (some w) h) : Go E R n0 Q h k n pc Ls (w :: st) :=
  go_end (fun T locs X fs hl => retOut X C.1 (w := w) (t := t) C.2.2.2.2.2.1 hnw (Or.inr (Or.inr (Or.inr (Or.inr ⟨rfl, ht, hw⟩)))) (hb C.2.1 hd) hl) C.2.2.2.2.2.2.1 (fun q => by rw [C.2.2.2.2.2.1] at q; cases q) hk hn hQ
theorem go_retV (C : Cx E Z own nm bytes mx none) (hd : decode bytes pc = .ok (.return_, 1)) (hk : k ≤ R.cells) (hn : n ≤ R.slots) (hQ : Q none h) : Go E R n0 Q h k n pc Ls [] :=
  go_end (fun T locs X fs hl => X.returnOut C.1 C.2.2.2.2.2.1 (hb C.2.1 hd) hl) C.2.2.2.2.2.2.1 (fun _ => rfl) hk hn hQ
/-! calls -/
theorem go_callS (C : Cx E Z own nm bytes mx rt) {i : Nat} {y : MethodName} {by' : ByteArray} {mx' : Nat} {rt' : Option FieldType} {rm : Room} {Qc : Option Value → Heap → Prop} {argsL : List Value}
    (w1 : (Cond.methodLink own i y).before a0 Z = true) (w2 : (Cond.static y).before a0 Z = true) (w3 : (Cond.initialized y.cls).before a0 Z = true) (w4 : (Cond.code y by' mx' rt').before a0 Z = true)
    (hM : Met Z y by' mx' rt' rm argsL.toArray h n0 Qc) (hd : decode bytes pc = .ok (.invokestatic i, 3)) (hsz : Ls.size = mx) (hst : st = argsL.reverse ++ rest)
    (hlen : ∀ sig, parseMethodDescriptor y.desc = some sig → argsL.length = sig.parameters.length) (hy : y.cls ≠ "java/lang/invoke/MethodHandle" ∧ y.cls ≠ "java/lang/invoke/VarHandle")
    (hfr : rm.frames + 1 ≤ R.frames) (W : Nat) (hW : (rest.map fun v => v.category).sum = W) (hlo : W + (mx' + 11) + rm.locals ≤ R.locals) {k' n' : Nat} (hk' : k + rm.cells = k') (hn' : n + rm.slots = n') (hc : k' ≤ R.cells) (hs : n' ≤ R.slots) (hp : pc + 3 = pc')
    (H : ∀ v h', Qc v h' → Go E R n0 Q h' k' n' pc' Ls (v.toList ++ rest)) : Go E R n0 Q h k n pc Ls st := fun T locs X hh N => by
  subst hp hW hk' hn'
  obtain ⟨v, vm, ⟨T', L', k', n'⟩, -, X', ⟨Lc, hQc, l1, y1, z1⟩, stp⟩ := Jvm.LawKit.callS X C.1 (y := y) C.2.2.2.2.1 (mvT C.2.2.2.1 w1) (mvT C.2.2.2.1 w2) (mvT C.2.2.2.1 w3) (mvT C.2.2.2.1 w4) hy
    (backOf (Q := fun v h L => Qc v h ∧ Fr n0 L) (W := (rest.map fun v => v.category).sum) (hM E.2.1 []) C.2.2.2.1 w4 w3 hfr hlo) (g := mkF E.2.2.2.2.1 pc Ls st) rfl (hsz.trans C.2.2.1.symm) (argsL := argsL) (rest := rest) hlen hst (by show 2 * 0 + _ ≤ _; omega) (hb C.2.1 hd) (fun _ _ => ⟨rfl, hh, hc, hs⟩)
  dsimp only [Pt.U, Pt.locs, Pt.cells, Pt.slots] at X' l1 y1 z1 stp hQc
  subst l1 y1 z1
  obtain ⟨s₂, o, q1, q⟩ := H v _ hQc.1 T' _ X' rfl (Fr.app N hQc.2)
  exact ⟨s₂, o, stp _ q1, q⟩
theorem go_callC (C : Cx E Z own nm bytes mx rt) {i : Nat} {y : MethodName} {by' : ByteArray} {mx' : Nat} {rm : Room} {Qc : Option Value → Heap → Prop} {argsL : List Value} {a : Nat}
    (w1 : (Cond.methodLink own i y).before a0 Z = true) (w2 : (Cond.instanceMethod y).before a0 Z = true) (w3 : (Cond.initialized y.cls).before a0 Z = true) (w4 : (Cond.code y by' mx' none).before a0 Z = true) (hni : y.name = "<init>")
    (hM : Met Z y by' mx' none rm (.ref a :: argsL).toArray h n0 Qc) (hd : decode bytes pc = .ok (.invokespecial i, 3)) (hsz : Ls.size = mx) (hst : st = argsL.reverse ++ .ref a :: rest)
    (hlen : ∀ sig, parseMethodDescriptor y.desc = some sig → argsL.length = sig.parameters.length) (hy : y.cls ≠ "java/lang/invoke/MethodHandle" ∧ y.cls ≠ "java/lang/invoke/VarHandle")
    (hfr : rm.frames + 1 ≤ R.frames) (W : Nat) (hW : (rest.map fun v => v.category).sum = W) (hlo : W + (mx' + 11) + rm.locals ≤ R.locals) {k' n' : Nat} (hk' : k + rm.cells = k') (hn' : n + rm.slots = n') (hc : k' ≤ R.cells) (hs : n' ≤ R.slots) (hp : pc + 3 = pc')
    (H : ∀ v h', Qc v h' → Go E R n0 Q h' k' n' pc' Ls (v.toList ++ rest)) : Go E R n0 Q h k n pc Ls st := fun T locs X hh N => by
  subst hp hW hk' hn'
  obtain ⟨v, vm, ⟨T', L', k', n'⟩, -, X', ⟨Lc, hQc, l1, y1, z1⟩, stp⟩ := X.specialBack C.1 (y := y) hni C.2.2.2.2.1 (mvT C.2.2.2.1 w1) (mvT C.2.2.2.1 w2) (mvT C.2.2.2.1 w4) hy
    (backOf (Q := fun v h L => Qc v h ∧ Fr n0 L) (W := (rest.map fun v => v.category).sum) (hM E.2.1 []) C.2.2.2.1 w4 w3 hfr hlo) (g := mkF E.2.2.2.2.1 pc Ls st) rfl (hsz.trans C.2.2.1.symm) (Steps.refl _) (a := a) (argsL := argsL) (rest := rest) hlen hst (by show 2 * 0 + _ ≤ _; omega) (hb C.2.1 hd) (fun _ _ => ⟨rfl, hh, hc, hs⟩)
  dsimp only [Pt.U, Pt.locs, Pt.cells, Pt.slots] at X' l1 y1 z1 stp hQc
  subst l1 y1 z1
  obtain ⟨s₂, o, q1, q⟩ := H v _ hQc.1 T' _ X' rfl (Fr.app N hQc.2)
  exact ⟨s₂, o, stp.trans q1, q⟩
theorem go_callV (C : Cx E Z own nm bytes mx rt) {i : Nat} {y : MethodName} {by' : ByteArray} {mx' : Nat} {rt' : Option FieldType} {rm : Room} {Qc : Option Value → Heap → Prop} {argsL : List Value} {a : Nat} {K : String}
    (w1 : (Cond.methodLink own i y).before a0 Z = true) (w2 : (Cond.declares y).before a0 Z = true) (w3 : (Cond.selects K y y).before a0 Z = true) (w4 : (Cond.instanceMethod y).before a0 Z = true) (w5 : (Cond.initialized y.cls).before a0 Z = true) (w6 : (Cond.code y by' mx' rt').before a0 Z = true)
    (hE : Exa Z h a K) (hM : Met Z y by' mx' rt' rm (.ref a :: argsL).toArray h n0 Qc) (hd : decode bytes pc = .ok (.invokevirtual i, 3)) (hsz : Ls.size = mx) (hst : st = argsL.reverse ++ .ref a :: rest)
    (hlen : ∀ sig, parseMethodDescriptor y.desc = some sig → argsL.length = sig.parameters.length) (hy : y.cls ≠ "java/lang/invoke/MethodHandle" ∧ y.cls ≠ "java/lang/invoke/VarHandle")
    (hfr : rm.frames + 1 ≤ R.frames) (W : Nat) (hW : (rest.map fun v => v.category).sum = W) (hlo : W + (mx' + 11) + rm.locals ≤ R.locals) {k' n' : Nat} (hk' : k + rm.cells = k') (hn' : n + rm.slots = n') (hc : k' ≤ R.cells) (hs : n' ≤ R.slots) (hp : pc + 3 = pc')
    (H : ∀ v h', Qc v h' → Go E R n0 Q h' k' n' pc' Ls (v.toList ++ rest)) : Go E R n0 Q h k n pc Ls st := fun T locs X hh N => by
  subst hp hW hk' hn'
  obtain ⟨cq, kq, qa, qb, qc⟩ := isOf C.2.2.2.1 hh hE
  obtain ⟨v, vm, ⟨T', L', k', n'⟩, -, X', ⟨Lc, hQc, l1, y1, z1⟩, stp⟩ := X.virtualBack C.1 (y := y) (z := y) C.2.2.2.2.1 (mvT C.2.2.2.1 w1) (mvT C.2.2.2.1 w2) (notFace_of_selects (args := #[]) (mvT C.2.2.2.1 w3)) (mvT C.2.2.2.1 w3) (mvT C.2.2.2.1 w4) hy
    (backOf (Q := fun v h L => Qc v h ∧ Fr n0 L) (W := (rest.map fun v => v.category).sum) (hM E.2.1 []) C.2.2.2.1 w6 w5 hfr hlo) qa qc (g := mkF E.2.2.2.2.1 pc Ls st) rfl (hsz.trans C.2.2.1.symm) (Steps.refl _) (argsL := argsL) (rest := rest) hlen hst (by show 2 * 0 + _ ≤ _; omega) (hb C.2.1 hd) (fun _ _ => ⟨rfl, hh, hc, hs⟩)
  dsimp only [Pt.U, Pt.locs, Pt.cells, Pt.slots] at X' l1 y1 z1 stp hQc
  subst l1 y1 z1
  obtain ⟨s₂, o, q1, q⟩ := H v _ hQc.1 T' _ X' rfl (Fr.app N hQc.2)
  exact ⟨s₂, o, stp.trans q1, q⟩
/-! objects and fields -/
theorem go_newO (C : Cx E Z own nm bytes mx rt) {i cnt : Nat} {K : String} (w1 : (Cond.classLink own i K).before a0 Z = true) (w2 : (Cond.instantiable K cnt).before a0 Z = true) (w3 : (Cond.initialized K).before a0 Z = true) (hd : decode bytes pc = .ok (.new i, 3)) {k' n' : Nat} (hk' : k + 1 = k') (hn' : n + cnt = n') (hc : k' ≤ R.cells) (hs : n' ≤ R.slots) (hp : pc + 3 = pc')
    (H : ∀ h', Ext h h' → Exa Z h' h.size K → (∀ {O f d : String} {ty : FieldType}, Laid Z a0 K O f d → parseFieldDescriptor d = some ty → Fld Z h' h.size O f d (defaultValue ty)) → Go E R n0 Q h' k' n' pc' Ls (.ref h.size :: st)) : Go E R n0 Q h k n pc Ls st := fun T locs X hh N => by
  subst hp hk' hn'
  obtain ⟨T', h', X', e', e2, A2, D2, -, stp⟩ := newO X C.1 C.2.2.2.1 C.2.2.2.2.1 w1 w2 w3 hh (g := mkF E.2.2.2.2.1 pc Ls st) rfl (hb C.2.1 hd) hc hs
  obtain ⟨s₂, o, q1, q⟩ := H h' e2 A2 D2 T' _ X' e' N
  exact ⟨s₂, o, stp _ q1, q⟩
theorem go_getF (C : Cx E Z own nm bytes mx rt) {i : Nat} {a : Nat} {O f d : String} {v : Value} (w1 : (Cond.fieldLink own i O f d).before a0 Z = true) (F : Fld Z h a O f d v) (hd : decode bytes pc = .ok (.getfield i, 3)) (hp : pc + 3 = pc') (H : Go E R n0 Q h k n pc' Ls (v :: st)) : Go E R n0 Q h k n pc Ls (.ref a :: st) := fun T locs X hh N => by
  subst hp
  obtain ⟨T', X', e', stp⟩ := getF X C.1 C.2.2.2.1 C.2.2.2.2.1 (host := "") (Or.inl w1) Via.refl hh F (g := mkF E.2.2.2.2.1 pc Ls (.ref a :: st)) rfl rfl (hb C.2.1 hd)
  obtain ⟨s₂, o, q1, q⟩ := H T' _ X' e' N
  exact ⟨s₂, o, stp _ q1, q⟩
theorem go_putF (C : Cx E Z own nm bytes mx rt) {i kk : Nat} {a : Nat} {O f d K : String} {v old : Value} {ty : FieldType} (w1 : (Cond.fieldLink own i O f d).before a0 Z = true) (F : Fld Z h a O f d old) (A : Exa Z h a K) (L : (Cond.lays K O f d).before a0 Z = true ∨ ((Cond.laysFinal K O f d).before a0 Z = true ∧ own = O ∧ nm = "<init>")) (wi : (Cond.instantiable K kk).before a0 Z = true)
    (hty : parseFieldDescriptor d = some ty) (hnw : narrow ty v = v) (hf : fits ty v = true) (ge : n0 ≤ a) (hd : decode bytes pc = .ok (.putfield i, 3)) (hp : pc + 3 = pc') (H : ∀ h', Wr h h' a (Jvm.RoadKit.slotOf Z O f d) v → Go E R n0 Q h' k n pc' Ls st) : Go E R n0 Q h k n pc Ls (v :: .ref a :: st) := fun T locs X hh N => by
  subst hp
  obtain ⟨T', h', X', e', W, stp⟩ := putF X C.1 C.2.2.2.1 C.2.2.2.2.1 (host := "") (Or.inl w1) Via.refl hh F A (L.imp id fun q => ⟨q.1, q.2.1, C.2.2.2.2.2.2.2.trans q.2.2⟩) wi hty hnw hf (g := mkF E.2.2.2.2.1 pc Ls (v :: .ref a :: st)) rfl rfl (hb C.2.1 hd)
  obtain ⟨s₂, o, q1, q⟩ := H h' W T' _ X' e' (Fr.snoc X' N ge)
  exact ⟨s₂, o, stp _ q1, q⟩
theorem go_getS (C : Cx E Z own nm bytes mx rt) {i : Nat} {O f d : String} {v : Value} (w1 : (Cond.fieldLink own i O f d).before a0 Z = true) (F : Sta Z h O f d v) (hd : decode bytes pc = .ok (.getstatic i, 3)) (hp : pc + 3 = pc') (H : Go E R n0 Q h k n pc' Ls (v :: st)) : Go E R n0 Q h k n pc Ls st := fun T locs X hh N => by
  subst hp
  obtain ⟨T', X', e', stp⟩ := getS X C.1 C.2.2.2.1 C.2.2.2.2.1 (host := "") w1 Via.refl hh F (g := mkF E.2.2.2.2.1 pc Ls st) rfl (hb C.2.1 hd)
  obtain ⟨s₂, o, q1, q⟩ := H T' _ X' e' N
  exact ⟨s₂, o, stp _ q1, q⟩
theorem sta_keep {h' : Heap} {O f d : String} {v : Value} {ws : List Nat} (F : Sta Z h O f d v) (K : Keep h h' ws) (q : ∀ x ∈ ws, ∃ D, Exa Z h x D) : Sta Z h' O f d v := by
  obtain ⟨cf, i, k, f, st, cell, h1, h2, h3, h4, h5, h6, h7⟩ := F
  refine ⟨cf, i, k, f, st, cell, h1, h2, h3, h4, K.2.1 st cell h5 (fun hm => ?_), h6, h7⟩
  obtain ⟨D, c, k', e1, -, -, e4, -⟩ := q st hm
  cases e1.symm.trans h5
  rw [h6] at e4; cases e4
/-! arrays -/
theorem go_newP (C : Cx E Z own nm bytes mx rt) {aty : ArrayType} {z : Int32} {cap : Nat} (w1 : (Cond.arrayClass (newarray.typeOf aty)).before a0 Z = true) (hd : decode bytes pc = .ok (.newarray aty, 2)) (hn : ¬ z < 0) (hcap : z.toNatClampNeg ≤ cap) (hb8 : cap * 8 ≤ 536870912) {k' n' : Nat} (hk' : k + 1 = k') (hn' : n + cap = n') (hc : k' ≤ R.cells) (hs : n' ≤ R.slots) (hp : pc + 2 = pc')
    (H : ∀ h' cA, Ext h h' → Arr Z h' h.size (newA cA (newarray.typeOf aty) z) (newarray.typeOf aty) → Go E R n0 Q h' k' n' pc' Ls (.ref h.size :: st)) : Go E R n0 Q h k n pc Ls (.int z :: st) := fun T locs X hh N => by
  subst hp hk' hn'
  obtain ⟨T', h', cA, X', e', e2, A2, stp⟩ := newP X C.1 C.2.2.2.1 w1 hh (g := mkF E.2.2.2.2.1 pc Ls (.int z :: st)) rfl (hb C.2.1 hd) rfl hn hcap hb8 hc hs
  obtain ⟨s₂, o, q1, q⟩ := H h' cA e2 A2 T' _ X' e' N
  exact ⟨s₂, o, stp _ q1, q⟩
/-- an array of ints (or bytes, or booleans) by its list -/
def Ai (Z : State) (h : Heap) (a : Nat) (ty : FieldType) (xs : List Int32) : Prop := ∃ c : Cell, Arr Z h a c ty ∧ c.slots = (xs.map Value.int).toArray ∧ xs.length < 2 ^ 31
theorem Ai.lt {a : Nat} {ty : FieldType} {xs : List Int32} (F : Ai Z h a ty xs) : a < h.size := by obtain ⟨c, A, -⟩ := F; exact A.lt
theorem Ai.ext {h' : Heap} {a : Nat} {ty : FieldType} {xs : List Int32} (F : Ai Z h a ty xs) (e : Ext h h') : Ai Z h' a ty xs := by obtain ⟨c, A, r⟩ := F; exact ⟨c, A.ext e, r⟩
theorem Ai.other {h' : Heap} {a b : Nat} {sl : Nat} {v : Value} {ty : FieldType} {xs : List Int32} (F : Ai Z h b ty xs) (W : Wr h h' a sl v) (q : b ≠ a) : Ai Z h' b ty xs := by obtain ⟨c, A, r⟩ := F; exact ⟨c, A.other W q, r⟩
theorem Ai.keep {h' : Heap} {a : Nat} {ws : List Nat} {ty : FieldType} {xs : List Int32} (F : Ai Z h a ty xs) (K : Keep h h' ws) (q : a ∉ ws) : Ai Z h' a ty xs := by obtain ⟨c, A, r⟩ := F; exact ⟨c, ⟨K.2.1 a c A.1 q, A.2⟩, r⟩
theorem Ai.set {h' : Heap} {a : Nat} {i : Nat} {v : Int32} {ty : FieldType} {xs : List Int32} (F : Ai Z h a ty xs) (W : Wr h h' a i (.int v)) : Ai Z h' a ty (xs.set i v) := by
  obtain ⟨c, A, r, q⟩ := F
  refine ⟨_, A.same W, ?_, by simpa using q⟩
  show c.slots.setIfInBounds i (.int v) = _
  rw [r]; apply Array.toList_inj.mp; simp [List.map_set]
theorem Ai.new {cA : ClassId} {a : Nat} {z : Int32} {ty : FieldType} (A : Arr Z h a (newA cA ty z) ty) (hz : ¬ z < 0) (hd : defaultValue ty = .int 0) : Ai Z h a ty (List.replicate z.toNatClampNeg 0) := by
  refine ⟨_, A, ?_, by simpa using (back32 hz).2⟩
  show Array.replicate z.toNatClampNeg (defaultValue ty) = _
  rw [hd]; apply Array.toList_inj.mp; simp
theorem Ai.bound {c : Cell} {xs : List Int32} {j : Int32} (e : c.slots = (xs.map Value.int).toArray) (h0 : 0 ≤ j.toInt) (h1 : j.toInt < xs.length) : ¬ (j < 0 ∨ c.slots.size ≤ j.toNatClampNeg) := by
  rw [e]; simp only [List.size_toArray, List.length_map, Int32.lt_iff_toInt_lt, Int32.toNatClampNeg, Int32.reduceToInt]; omega
theorem go_alen (C : Cx E Z own nm bytes mx rt) {a : Nat} {ty : FieldType} {xs : List Int32} {z : Int32} (F : Ai Z h a ty xs) (hd : decode bytes pc = .ok (.arraylength, 1)) (hz : xs.length.toInt32 = z) (hp : pc + 1 = pc') (H : Go E R n0 Q h k n pc' Ls (.int z :: st)) : Go E R n0 Q h k n pc Ls (.ref a :: st) := by
  subst hp hz
  obtain ⟨c, A, r, q⟩ := F
  refine go_step H fun T locs t X hh s2 => X.arraylength C.1 (by rw [hh]; exact A.1) (State.isArrayOf_alike C.2.2.2.1.alike A.2.1) (g := mkF E.2.2.2.2.1 pc Ls (.ref a :: st)) rfl rfl (hb C.2.1 hd) t ?_
  rw [r]; simpa using s2
theorem ai_get {xs : List Int32} {j v : Int32} {i : Nat} (hi : j.toInt = (i : Int)) (hv : xs[i]? = some v) : ((xs.map Value.int).toArray)[j.toNatClampNeg]? = some (.int v) := by
  have e : j.toNatClampNeg = i := by show j.toInt.toNat = i; omega
  rw [e]; simp [hv]
theorem go_iaload (C : Cx E Z own nm bytes mx rt) {a : Nat} {xs : List Int32} {j v : Int32} (F : Ai Z h a .int xs) {i : Nat} (hi : j.toInt = (i : Int)) (hv : xs[i]? = some v) (hd : decode bytes pc = .ok (.iaload, 1)) (hp : pc + 1 = pc') (H : Go E R n0 Q h k n pc' Ls (.int v :: st)) : Go E R n0 Q h k n pc Ls (.int j :: .ref a :: st) := by
  subst hp
  obtain ⟨c, A, r, q⟩ := F
  have hb1 := Ai.bound (j := j) r (by omega) (by have := (List.getElem?_eq_some_iff.mp hv).1; omega)
  exact go_step H fun T locs t X hh s2 => X.iaload C.1 (by rw [hh]; exact A.1) (State.isArrayOf_alike C.2.2.2.1.alike A.2.1) A.2.2 hb1 (by rw [r]; exact ai_get hi hv) (g := mkF E.2.2.2.2.1 pc Ls (.int j :: .ref a :: st)) rfl rfl (hb C.2.1 hd) t s2
theorem go_baloadB (C : Cx E Z own nm bytes mx rt) {a : Nat} {xs : List Int32} {j v : Int32} (F : Ai Z h a .byte xs) {i : Nat} (hi : j.toInt = (i : Int)) (hv : xs[i]? = some v) (hd : decode bytes pc = .ok (.baload, 1)) (hp : pc + 1 = pc') (H : Go E R n0 Q h k n pc' Ls (.int v :: st)) : Go E R n0 Q h k n pc Ls (.int j :: .ref a :: st) := by
  subst hp
  obtain ⟨c, A, r, q⟩ := F
  have hb1 := Ai.bound (j := j) r (by omega) (by have := (List.getElem?_eq_some_iff.mp hv).1; omega)
  exact go_step H fun T locs t X hh s2 => X.baloadBytes C.1 (by rw [hh]; exact A.1) (State.isArrayOf_alike C.2.2.2.1.alike A.2.1) A.2.2 hb1 (by rw [r]; exact ai_get hi hv) (g := mkF E.2.2.2.2.1 pc Ls (.int j :: .ref a :: st)) rfl rfl (hb C.2.1 hd) t s2
theorem go_baloadZ (C : Cx E Z own nm bytes mx rt) {a : Nat} {xs : List Int32} {j v : Int32} (F : Ai Z h a .boolean xs) {i : Nat} (hi : j.toInt = (i : Int)) (hv : xs[i]? = some v) (hd : decode bytes pc = .ok (.baload, 1)) (hp : pc + 1 = pc') (H : Go E R n0 Q h k n pc' Ls (.int v :: st)) : Go E R n0 Q h k n pc Ls (.int j :: .ref a :: st) := by
  subst hp
  obtain ⟨c, A, r, q⟩ := F
  have hb1 := Ai.bound (j := j) r (by omega) (by have := (List.getElem?_eq_some_iff.mp hv).1; omega)
  exact go_step H fun T locs t X hh s2 => X.baloadBooleans C.1 (by rw [hh]; exact A.1) (State.isArrayOf_alike C.2.2.2.1.alike A.2.1) A.2.2 hb1 (by rw [r]; exact ai_get hi hv) (g := mkF E.2.2.2.2.1 pc Ls (.int j :: .ref a :: st)) rfl rfl (hb C.2.1 hd) t s2
theorem go_iastore (C : Cx E Z own nm bytes mx rt) {a : Nat} {xs : List Int32} {j v : Int32} (F : Ai Z h a .int xs) {i : Nat} {xs' : List Int32} (hi : j.toInt = (i : Int)) (h1 : i < xs.length) (hxs : xs.set i v = xs') (ge : n0 ≤ a) (hd : decode bytes pc = .ok (.iastore, 1)) (hp : pc + 1 = pc')
    (H : ∀ h', Wr h h' a i (.int v) → Ai Z h' a .int xs' → Go E R n0 Q h' k n pc' Ls st) : Go E R n0 Q h k n pc Ls (.int v :: .int j :: .ref a :: st) := fun T locs X hh N => by
  subst hp
  have F' := F
  obtain ⟨c, A, r, q⟩ := F
  obtain ⟨T', h', X', e', W, stp⟩ := stI X C.1 C.2.2.2.1 hh A (Ai.bound r (by omega) (by omega)) (g := mkF E.2.2.2.2.1 pc Ls (.int v :: .int j :: .ref a :: st)) rfl rfl (hb C.2.1 hd)
  have ei : j.toNatClampNeg = i := by show j.toInt.toNat = i; omega
  rw [ei] at W
  obtain ⟨s₂, o, q1, q⟩ := H h' W (hxs ▸ F'.set W) T' _ X' e' (Fr.snoc X' N ge)
  exact ⟨s₂, o, stp _ q1, q⟩
theorem go_bastoreZ (C : Cx E Z own nm bytes mx rt) {a : Nat} {xs : List Int32} {j v : Int32} (F : Ai Z h a .boolean xs) {i : Nat} {xs' : List Int32} (hi : j.toInt = (i : Int)) (h1 : i < xs.length) (hxs : xs.set i v = xs') (hv : v = 0 ∨ v = 1) (ge : n0 ≤ a) (hd : decode bytes pc = .ok (.bastore, 1)) (hp : pc + 1 = pc')
    (H : ∀ h', Wr h h' a i (.int v) → Ai Z h' a .boolean xs' → Go E R n0 Q h' k n pc' Ls st) : Go E R n0 Q h k n pc Ls (.int v :: .int j :: .ref a :: st) := fun T locs X hh N => by
  subst hp
  have F' := F
  have nv : nar .boolean v = v := by rcases hv with rfl | rfl <;> rfl
  obtain ⟨c, A, r, q⟩ := F
  obtain ⟨T', h', X', e', W, stp⟩ := stZ X C.1 C.2.2.2.1 hh A (Ai.bound r (by omega) (by omega)) (g := mkF E.2.2.2.2.1 pc Ls (.int v :: .int j :: .ref a :: st)) rfl rfl (hb C.2.1 hd)
  have ei : j.toNatClampNeg = i := by show j.toInt.toNat = i; omega
  rw [ei] at W
  rw [nv] at W
  obtain ⟨s₂, o, q1, q⟩ := H h' W (hxs ▸ F'.set W) T' _ X' e' (Fr.snoc X' N ge)
  exact ⟨s₂, o, stp _ q1, q⟩
theorem go_bastoreB (C : Cx E Z own nm bytes mx rt) {a : Nat} {xs : List Int32} {j v : Int32} (F : Ai Z h a .byte xs) {i : Nat} {xs' : List Int32} (hi : j.toInt = (i : Int)) (h1 : i < xs.length) (hxs : xs.set i v = xs') (hv : nar .byte v = v) (ge : n0 ≤ a) (hd : decode bytes pc = .ok (.bastore, 1)) (hp : pc + 1 = pc')
    (H : ∀ h', Wr h h' a i (.int v) → Ai Z h' a .byte xs' → Go E R n0 Q h' k n pc' Ls st) : Go E R n0 Q h k n pc Ls (.int v :: .int j :: .ref a :: st) := fun T locs X hh N => by
  subst hp
  have F' := F
  obtain ⟨c, A, r, q⟩ := F
  obtain ⟨T', h', X', e', W, stp⟩ := stB X C.1 C.2.2.2.1 hh A (Ai.bound r (by omega) (by omega)) (g := mkF E.2.2.2.2.1 pc Ls (.int v :: .int j :: .ref a :: st)) rfl rfl (hb C.2.1 hd)
  have ei : j.toNatClampNeg = i := by show j.toInt.toNat = i; omega
  rw [ei] at W
  rw [hv] at W
  obtain ⟨s₂, o, q1, q⟩ := H h' W (hxs ▸ F'.set W) T' _ X' e' (Fr.snoc X' N ge)
  exact ⟨s₂, o, stp _ q1, q⟩
theorem go_initO (C : Cx E Z own nm bytes mx rt) {i : Nat} {a : Nat} (w1 : (Cond.methodLink own i Lib.objectInit).before a0 Z = true) (w2 : (Cond.instanceMethod Lib.objectInit).before a0 Z = true) (w3 : (Cond.code Lib.objectInit object_method_1_code 1 none).before a0 Z = true)
    (hd : decode bytes pc = .ok (.invokespecial i, 3)) (hsz : Ls.size = mx) (hf : 1 ≤ R.frames) (W : Nat) (hW : (st.map fun v => v.category).sum = W) (hlo : W + 12 ≤ R.locals) (hp : pc + 3 = pc') (H : Go E R n0 Q h k n pc' Ls st) : Go E R n0 Q h k n pc Ls (.ref a :: st) := fun T locs X hh N => by
  subst hp hW
  obtain ⟨T', X', e', stp⟩ := initO X C.1 C.2.2.2.1 C.2.2.2.2.1 w1 w2 w3 hh (g := mkF E.2.2.2.2.1 pc Ls (.ref a :: st)) rfl (hsz.trans C.2.2.1.symm) rfl (hb C.2.1 hd) hf (W := (st.map fun v => v.category).sum) (by show 2 * 0 + _ ≤ _; omega) hlo
  obtain ⟨s₂, o, q1, q⟩ := H T' _ X' e' N
  exact ⟨s₂, o, stp _ q1, q⟩
/-- an array of small naturals -/
abbrev An (Z : State) (h : Heap) (a : Nat) (ty : FieldType) (xs : List Nat) : Prop := Ai Z h a ty (xs.map Int32.ofNat)
theorem nat_i {n : Nat} (h : n < 2 ^ 31) : (Int32.ofNat n).toInt = (n : Int) := Int32.toInt_ofNat_small h
theorem An.small {a : Nat} {ty : FieldType} {xs : List Nat} (F : An Z h a ty xs) : xs.length < 2 ^ 31 := by obtain ⟨_, _, _, q⟩ := F; simpa using q
theorem An.setW {h' : Heap} {a : Nat} {ty : FieldType} {xs : List Nat} {i v : Nat} (F : An Z h a ty xs) (W : Wr h h' a i (.int (Int32.ofNat v))) : An Z h' a ty (xs.set i v) := by
  have q := Ai.set F W
  rwa [← List.map_set] at q
theorem an_at {xs : List Nat} {i v : Nat} (h : xs[i]? = some v) : (xs.map Int32.ofNat)[i]? = some (Int32.ofNat v) := by rw [List.getElem?_map, h]; rfl
theorem go_nload (C : Cx E Z own nm bytes mx rt) {a : Nat} {xs : List Nat} {i v : Nat} (F : An Z h a .int xs) (hv : xs[i]? = some v) (hd : decode bytes pc = .ok (.iaload, 1)) (hp : pc + 1 = pc') (H : Go E R n0 Q h k n pc' Ls (.int (Int32.ofNat v) :: st)) : Go E R n0 Q h k n pc Ls (.int (Int32.ofNat i) :: .ref a :: st) :=
  go_iaload C F (nat_i (by have := F.small; have := (List.getElem?_eq_some_iff.mp hv).1; omega)) (an_at hv) hd hp H
theorem go_nloadB (C : Cx E Z own nm bytes mx rt) {a : Nat} {xs : List Nat} {i v : Nat} (F : An Z h a .byte xs) (hv : xs[i]? = some v) (hd : decode bytes pc = .ok (.baload, 1)) (hp : pc + 1 = pc') (H : Go E R n0 Q h k n pc' Ls (.int (Int32.ofNat v) :: st)) : Go E R n0 Q h k n pc Ls (.int (Int32.ofNat i) :: .ref a :: st) :=
  go_baloadB C F (nat_i (by have := F.small; have := (List.getElem?_eq_some_iff.mp hv).1; omega)) (an_at hv) hd hp H
theorem go_nloadZ (C : Cx E Z own nm bytes mx rt) {a : Nat} {xs : List Nat} {i v : Nat} (F : An Z h a .boolean xs) (hv : xs[i]? = some v) (hd : decode bytes pc = .ok (.baload, 1)) (hp : pc + 1 = pc') (H : Go E R n0 Q h k n pc' Ls (.int (Int32.ofNat v) :: st)) : Go E R n0 Q h k n pc Ls (.int (Int32.ofNat i) :: .ref a :: st) :=
  go_baloadZ C F (nat_i (by have := F.small; have := (List.getElem?_eq_some_iff.mp hv).1; omega)) (an_at hv) hd hp H
theorem go_nstore (C : Cx E Z own nm bytes mx rt) {a : Nat} {xs : List Nat} {i v : Nat} (F : An Z h a .int xs) (h1 : i < xs.length) (ge : n0 ≤ a) (hd : decode bytes pc = .ok (.iastore, 1)) (hp : pc + 1 = pc')
    (H : ∀ h', Wr h h' a i (.int (Int32.ofNat v)) → Go E R n0 Q h' k n pc' Ls st) : Go E R n0 Q h k n pc Ls (.int (Int32.ofNat v) :: .int (Int32.ofNat i) :: .ref a :: st) :=
  go_iastore C F (nat_i (by have := F.small; omega)) (by simpa using h1) rfl ge hd hp (fun h' W _ => H h' W)
theorem go_nstoreZ (C : Cx E Z own nm bytes mx rt) {a : Nat} {xs : List Nat} {i v : Nat} (F : An Z h a .boolean xs) (h1 : i < xs.length) (hv : v = 0 ∨ v = 1) (ge : n0 ≤ a) (hd : decode bytes pc = .ok (.bastore, 1)) (hp : pc + 1 = pc')
    (H : ∀ h', Wr h h' a i (.int (Int32.ofNat v)) → Go E R n0 Q h' k n pc' Ls st) : Go E R n0 Q h k n pc Ls (.int (Int32.ofNat v) :: .int (Int32.ofNat i) :: .ref a :: st) :=
  go_bastoreZ C F (nat_i (by have := F.small; omega)) (by simpa using h1) rfl (by rcases hv with rfl | rfl <;> decide) ge hd hp (fun h' W _ => H h' W)
theorem go_nstoreB (C : Cx E Z own nm bytes mx rt) {a : Nat} {xs : List Nat} {i v : Nat} (F : An Z h a .byte xs) (h1 : i < xs.length) (hv : nar .byte (Int32.ofNat v) = Int32.ofNat v) (ge : n0 ≤ a) (hd : decode bytes pc = .ok (.bastore, 1)) (hp : pc + 1 = pc')
    (H : ∀ h', Wr h h' a i (.int (Int32.ofNat v)) → Go E R n0 Q h' k n pc' Ls st) : Go E R n0 Q h k n pc Ls (.int (Int32.ofNat v) :: .int (Int32.ofNat i) :: .ref a :: st) :=
  go_bastoreB C F (nat_i (by have := F.small; omega)) (by simpa using h1) rfl hv ge hd hp (fun h' W _ => H h' W)
theorem go_nalen (C : Cx E Z own nm bytes mx rt) {a : Nat} {ty : FieldType} {xs : List Nat} (F : An Z h a ty xs) (hd : decode bytes pc = .ok (.arraylength, 1)) (hp : pc + 1 = pc') (H : Go E R n0 Q h k n pc' Ls (.int (Int32.ofNat xs.length) :: st)) : Go E R n0 Q h k n pc Ls (.ref a :: st) :=
  go_alen C F hd (by rw [List.length_map]) hp H
theorem go_nnew (C : Cx E Z own nm bytes mx rt) {aty : ArrayType} {z : Nat} (w1 : (Cond.arrayClass (newarray.typeOf aty)).before a0 Z = true) (hdv : defaultValue (newarray.typeOf aty) = .int 0) (hz : z ≤ 60000000) (hd : decode bytes pc = .ok (.newarray aty, 2)) {k' n' : Nat} (hk' : k + 1 = k') (hn' : n + z = n') (hc : k' ≤ R.cells) (hs : n' ≤ R.slots) (hp : pc + 2 = pc')
    (H : ∀ h', Ext h h' → An Z h' h.size (newarray.typeOf aty) (List.replicate z 0) → Go E R n0 Q h' k' n' pc' Ls (.ref h.size :: st)) : Go E R n0 Q h k n pc Ls (.int (Int32.ofNat z) :: st) := by
  have q : (Int32.ofNat z).toInt = (z : Int) := nat_i (by omega)
  have q2 : ¬ Int32.ofNat z < 0 := by rw [Int32.lt_iff_toInt_lt, q]; show ¬ (z : Int) < 0; omega
  have q3 : (Int32.ofNat z).toNatClampNeg = z := by show (Int32.ofNat z).toInt.toNat = z; omega
  refine go_newP C (cap := z) w1 hd q2 (Nat.le_of_eq q3) (by omega) hk' hn' hc hs hp fun h' cA x A => H h' x ?_
  have B := Ai.new A q2 hdv
  rw [q3] at B
  show Ai Z h' h.size _ ((List.replicate z 0).map Int32.ofNat)
  rwa [List.map_replicate]
theorem go_callP (C : Cx E Z own nm bytes mx rt) {i : Nat} {y : MethodName} {by' : ByteArray} {mx' : Nat} {rt' : Option FieldType} {rm : Room} {Qc : Option Value → Heap → Prop} {argsL : List Value} {a : Nat} {kk : Nat}
    (w1 : (Cond.methodLink own i y).before a0 Z = true) (w2 : (Cond.privateMethod y).before a0 Z = true) (w4 : (Cond.instanceMethod y).before a0 Z = true) (w5 : (Cond.initialized y.cls).before a0 Z = true) (w6 : (Cond.code y by' mx' rt').before a0 Z = true) (w7 : (Cond.instantiable y.cls kk).before a0 Z = true)
    (hE : Exa Z h a y.cls) (hM : Met Z y by' mx' rt' rm (.ref a :: argsL).toArray h n0 Qc) (hd : decode bytes pc = .ok (.invokevirtual i, 3)) (hsz : Ls.size = mx) (hst : st = argsL.reverse ++ .ref a :: rest)
    (hlen : ∀ sig, parseMethodDescriptor y.desc = some sig → argsL.length = sig.parameters.length) (hy : y.cls ≠ "java/lang/invoke/MethodHandle" ∧ y.cls ≠ "java/lang/invoke/VarHandle")
    (hfr : rm.frames + 1 ≤ R.frames) (W : Nat) (hW : (rest.map fun v => v.category).sum = W) (hlo : W + (mx' + 11) + rm.locals ≤ R.locals) {k' n' : Nat} (hk' : k + rm.cells = k') (hn' : n + rm.slots = n') (hc : k' ≤ R.cells) (hs : n' ≤ R.slots) (hp : pc + 3 = pc')
    (H : ∀ v h', Qc v h' → Go E R n0 Q h' k' n' pc' Ls (v.toList ++ rest)) : Go E R n0 Q h k n pc Ls st := fun T locs X hh N => by
  subst hp hW hk' hn'
  obtain ⟨ca, ha1, ha2⟩ := hE.cell
  obtain ⟨c2, k2, i1, i2, i3, i4, -, -⟩ := Cond.instantiable_spec (mvT (args := #[]) C.2.2.2.1 w7)
  have hpriv : State.PrivateAt E.2.2.2.1 y := Cond.privateMethod_at (args := #[]) (mvP C.2.2.2.1 w2)
  have hsel : (Cond.selects y.cls y y).before E.2.2.2.2.2.1 E.2.2.2.1 = true := selects_self_of_private i1 i2 (Bool.or_eq_false_iff.mp i4).1 hpriv (mvT C.2.2.2.1 w4) hy
  obtain ⟨v, vm, ⟨T', L', k', n'⟩, -, X', ⟨Lc, hQc, l1, y1, z1⟩, stp⟩ := X.privateBack C.1 (y := y) C.2.2.2.2.1 (mvT C.2.2.2.1 w1) (mvT C.2.2.2.1 w4) hsel hpriv (mvT C.2.2.2.1 w6) hy
    (backOf (Q := fun v h L => Qc v h ∧ Fr n0 L) (W := (rest.map fun v => v.category).sum) (hM E.2.1 []) C.2.2.2.1 w6 w5 hfr hlo) (g := mkF E.2.2.2.2.1 pc Ls st) rfl (hsz.trans C.2.2.1.symm) (Steps.refl _) (a := a) (cell := ca) (by rw [hh]; exact ha1) ha2 (argsL := argsL) (rest := rest) hlen hst (by show 2 * 0 + _ ≤ _; omega) (hb C.2.1 hd) (fun _ _ => ⟨rfl, hh, hc, hs⟩)
  dsimp only [Pt.U, Pt.locs, Pt.cells, Pt.slots] at X' l1 y1 z1 stp hQc
  subst l1 y1 z1
  obtain ⟨s₂, o, q1, q⟩ := H v _ hQc.1 T' _ X' rfl (Fr.app N hQc.2)
  exact ⟨s₂, o, stp.trans q1, q⟩
theorem an2_arv {a x y : Nat} (F : An Z h a .int [x, y]) : ∃ k, Arv Z h a k .int 2 [.int (Int32.ofNat x), .int (Int32.ofNat y)] (.int 0) := by
  obtain ⟨c, A, r, q⟩ := F
  have hs : c.slots.size = 2 := by rw [r]; rfl
  refine ⟨c.cls, c, A, rfl, by rw [hs]; rfl, by decide, fun k hk => ?_, fun k hk => ?_⟩
  · rw [hs] at hk
    rw [r]
    match k, hk with
    | 0, _ => rfl
    | 1, _ => rfl
  · rw [hs] at hk
    match k, hk with
    | 0, _ => rfl
    | 1, _ => rfl
theorem an2_of {a x y : Nat} {k : ClassId} (F : Arv Z h a k .int 2 [.int (Int32.ofNat x), .int (Int32.ofNat y)] (.int 0)) : An Z h a .int [x, y] := by
  obtain ⟨c, A, -, S, -, H, -⟩ := F
  have hs : c.slots.size = 2 := by rw [S]; rfl
  refine ⟨c, A, ?_, by show 2 < 2 ^ 31; decide⟩
  apply Array.ext_getElem?
  intro i
  by_cases hi : i < 2
  · have q := H i (by omega)
    rw [q]
    match i, hi with
    | 0, _ => rfl
    | 1, _ => rfl
  · rw [Array.getElem?_eq_none (by omega), Array.getElem?_eq_none (by show ([x, y].map _ |>.map Value.int).toArray.size ≤ i; simp; omega)]
theorem go_acopy2 (C : Cx E Z own nm bytes mx rt) {i a b x y p q : Nat} (w1 : (Cond.methodLink own i Jvm.Stand.acN).before a0 Z = true) (w2 : (Cond.native Jvm.Stand.acN).before a0 Z = true) (w3 : (Cond.static Jvm.Stand.acN).before a0 Z = true) (w4 : (Cond.initialized "java/lang/System").before a0 Z = true)
    (A : An Z h a .int [x, y]) (B : An Z h b .int [p, q]) (ge : n0 ≤ b) (hd : decode bytes pc = .ok (.invokestatic i, 3)) (hsz : Ls.size = mx) (hf : 1 ≤ R.frames) (W : Nat) (hW : (st.map fun v => v.category).sum = W) (hlo : W + 18 ≤ R.locals) (hp : pc + 3 = pc')
    (H : ∀ h', Keep h h' [b] → An Z h' b .int [x, y] → Go E R n0 Q h' k n pc' Ls st) : Go E R n0 Q h k n pc Ls (.int 2 :: .int 0 :: .ref b :: .int 0 :: .ref a :: st) := fun T locs X hh N => by
  subst hp hW
  obtain ⟨ka, Aa⟩ := an2_arv A
  obtain ⟨kb, Ab⟩ := an2_arv B
  obtain ⟨T', h', L, X', e', N', K, V, stp⟩ := cpA X C.1 C.2.2.2.1 C.2.2.2.2.1 w1 w2 w3 w4 hh Aa Ab (us := [.int (Int32.ofNat x), .int (Int32.ofNat y)]) (Or.inl ⟨rfl, rfl⟩) (by decide) (by decide) (by decide) (by decide) (by decide) rfl (Nat.le_of_eq rfl) N ge (g := mkF E.2.2.2.2.1 pc Ls (.int 2 :: .int 0 :: .ref b :: .int 0 :: .ref a :: st)) rfl (hsz.trans C.2.2.1.symm) rfl (hb C.2.1 hd) hf (W := (st.map fun v => v.category).sum) (by show 2 * 0 + _ ≤ _; omega) (by show _ + (7 + 11) ≤ _; omega)
  obtain ⟨s₂, o, q1, q⟩ := H h' K (an2_of V) T' _ X' e' N'
  exact ⟨s₂, o, stp _ q1, q⟩
end GoKit
theorem pn0 : plainName "com/example/joinweave/joinweave/graph/CoreTreesTakenPinLaw" = true := by first | (simp [plainName, overriddenIn]; done) | decide +kernel
theorem pn1 : plainName "com/example/joinweave/joinweave/graph/CoreTrees" = true := by first | (simp [plainName, overriddenIn]; done) | decide +kernel
theorem pn2 : plainName "com/example/joinweave/joinweave/graph/UnionFind" = true := by first | (simp [plainName, overriddenIn]; done) | decide +kernel
theorem pn3 : plainFor (⟨"java/lang/Math", "max", "(II)I"⟩ : MethodName) = true := by decide +kernel
theorem pd0 : parseMethodDescriptor "([I[I[IIII)I" = some ⟨[(.array .int), (.array .int), (.array .int), .int, .int, .int], some .int⟩ := by decide +kernel
theorem pd1 : parseMethodDescriptor "(I[I[I[I)V" = some ⟨[.int, (.array .int), (.array .int), (.array .int)], none⟩ := by decide +kernel
theorem pd2 : parseMethodDescriptor "()V" = some ⟨[], none⟩ := by decide +kernel
theorem pd3 : parseMethodDescriptor "(I)V" = some ⟨[.int], none⟩ := by decide +kernel
theorem pd4 : parseMethodDescriptor "(II)I" = some ⟨[.int, .int], some .int⟩ := by decide +kernel
theorem pd5 : parseMethodDescriptor "(II)Z" = some ⟨[.int, .int], some .boolean⟩ := by decide +kernel
theorem pd6 : parseMethodDescriptor "(I)I" = some ⟨[.int], some .int⟩ := by decide +kernel
theorem pd7 : parseMethodDescriptor "()Z" = some ⟨[], some .boolean⟩ := by decide +kernel
theorem pd8 : parseMethodDescriptor "(I)Z" = some ⟨[.int], some .boolean⟩ := by decide +kernel
theorem pd9 : parseMethodDescriptor "()I" = some ⟨[], some .int⟩ := by decide +kernel
theorem pd10 : parseMethodDescriptor "([II)I" = some ⟨[(.array .int), .int], some .int⟩ := by decide +kernel
theorem pd11 : parseMethodDescriptor "(ZI)I" = some ⟨[.boolean, .int], some .int⟩ := by decide +kernel
theorem pd12 : parseMethodDescriptor "(Z[II)Z" = some ⟨[.boolean, (.array .int), .int], some .boolean⟩ := by decide +kernel
theorem pd13 : parseMethodDescriptor "(III)Z" = some ⟨[.int, .int, .int], some .boolean⟩ := by decide +kernel
theorem d7_0 : decode prog_165_method_2_code 0 = .ok (.iload_n 1, 1) := by decide +kernel
theorem d7_1 : decode prog_165_method_2_code 1 = .ok (.istore_n 2, 1) := by decide +kernel
theorem d7_2 : decode prog_165_method_2_code 2 = .ok (.aload_n 0, 1) := by decide +kernel
theorem d7_3 : decode prog_165_method_2_code 3 = .ok (.getfield 7, 3) := by decide +kernel
theorem d7_6 : decode prog_165_method_2_code 6 = .ok (.iload_n 2, 1) := by decide +kernel
theorem d7_7 : decode prog_165_method_2_code 7 = .ok (.iaload, 1) := by decide +kernel
theorem d7_8 : decode prog_165_method_2_code 8 = .ok (.iload_n 2, 1) := by decide +kernel
theorem d7_9 : decode prog_165_method_2_code 9 = .ok (.if_icmp .eq 13, 3) := by decide +kernel
theorem d7_12 : decode prog_165_method_2_code 12 = .ok (.aload_n 0, 1) := by decide +kernel
theorem d7_13 : decode prog_165_method_2_code 13 = .ok (.getfield 7, 3) := by decide +kernel
theorem d7_16 : decode prog_165_method_2_code 16 = .ok (.iload_n 2, 1) := by decide +kernel
theorem d7_17 : decode prog_165_method_2_code 17 = .ok (.iaload, 1) := by decide +kernel
theorem d7_18 : decode prog_165_method_2_code 18 = .ok (.istore_n 2, 1) := by decide +kernel
theorem d7_19 : decode prog_165_method_2_code 19 = .ok (.goto (-17), 3) := by decide +kernel
theorem d7_22 : decode prog_165_method_2_code 22 = .ok (.iload_n 2, 1) := by decide +kernel
theorem d7_23 : decode prog_165_method_2_code 23 = .ok (.ireturn, 1) := by decide +kernel
theorem d6_0 : decode prog_165_method_3_code 0 = .ok (.aload_n 0, 1) := by decide +kernel
theorem d6_1 : decode prog_165_method_3_code 1 = .ok (.iload_n 1, 1) := by decide +kernel
theorem d6_2 : decode prog_165_method_3_code 2 = .ok (.invokevirtual 25, 3) := by decide +kernel
theorem d6_5 : decode prog_165_method_3_code 5 = .ok (.istore_n 3, 1) := by decide +kernel
theorem d6_6 : decode prog_165_method_3_code 6 = .ok (.aload_n 0, 1) := by decide +kernel
theorem d6_7 : decode prog_165_method_3_code 7 = .ok (.iload_n 2, 1) := by decide +kernel
theorem d6_8 : decode prog_165_method_3_code 8 = .ok (.invokevirtual 25, 3) := by decide +kernel
theorem d6_11 : decode prog_165_method_3_code 11 = .ok (.istore 4, 2) := by decide +kernel
theorem d6_13 : decode prog_165_method_3_code 13 = .ok (.iload_n 3, 1) := by decide +kernel
theorem d6_14 : decode prog_165_method_3_code 14 = .ok (.iload 4, 2) := by decide +kernel
theorem d6_16 : decode prog_165_method_3_code 16 = .ok (.if_icmp .ne 5, 3) := by decide +kernel
theorem d6_19 : decode prog_165_method_3_code 19 = .ok (.iconst 0, 1) := by decide +kernel
theorem d6_20 : decode prog_165_method_3_code 20 = .ok (.ireturn, 1) := by decide +kernel
theorem d6_21 : decode prog_165_method_3_code 21 = .ok (.aload_n 0, 1) := by decide +kernel
theorem d6_22 : decode prog_165_method_3_code 22 = .ok (.getfield 13, 3) := by decide +kernel
theorem d6_25 : decode prog_165_method_3_code 25 = .ok (.iload_n 3, 1) := by decide +kernel
theorem d6_26 : decode prog_165_method_3_code 26 = .ok (.iaload, 1) := by decide +kernel
theorem d6_27 : decode prog_165_method_3_code 27 = .ok (.aload_n 0, 1) := by decide +kernel
theorem d6_28 : decode prog_165_method_3_code 28 = .ok (.getfield 13, 3) := by decide +kernel
theorem d6_31 : decode prog_165_method_3_code 31 = .ok (.iload 4, 2) := by decide +kernel
theorem d6_33 : decode prog_165_method_3_code 33 = .ok (.iaload, 1) := by decide +kernel
theorem d6_34 : decode prog_165_method_3_code 34 = .ok (.if_icmp .le 13, 3) := by decide +kernel
theorem d6_37 : decode prog_165_method_3_code 37 = .ok (.iload_n 3, 1) := by decide +kernel
theorem d6_38 : decode prog_165_method_3_code 38 = .ok (.istore 5, 2) := by decide +kernel
theorem d6_40 : decode prog_165_method_3_code 40 = .ok (.iload 4, 2) := by decide +kernel
theorem d6_42 : decode prog_165_method_3_code 42 = .ok (.istore_n 3, 1) := by decide +kernel
theorem d6_43 : decode prog_165_method_3_code 43 = .ok (.iload 5, 2) := by decide +kernel
theorem d6_45 : decode prog_165_method_3_code 45 = .ok (.istore 4, 2) := by decide +kernel
theorem d6_47 : decode prog_165_method_3_code 47 = .ok (.aload_n 0, 1) := by decide +kernel
theorem d6_48 : decode prog_165_method_3_code 48 = .ok (.getfield 7, 3) := by decide +kernel
theorem d6_51 : decode prog_165_method_3_code 51 = .ok (.iload_n 3, 1) := by decide +kernel
theorem d6_52 : decode prog_165_method_3_code 52 = .ok (.iload 4, 2) := by decide +kernel
theorem d6_54 : decode prog_165_method_3_code 54 = .ok (.iastore, 1) := by decide +kernel
theorem d6_55 : decode prog_165_method_3_code 55 = .ok (.aload_n 0, 1) := by decide +kernel
theorem d6_56 : decode prog_165_method_3_code 56 = .ok (.getfield 13, 3) := by decide +kernel
theorem d6_59 : decode prog_165_method_3_code 59 = .ok (.iload 4, 2) := by decide +kernel
theorem d6_61 : decode prog_165_method_3_code 61 = .ok (.dup2, 1) := by decide +kernel
theorem d6_62 : decode prog_165_method_3_code 62 = .ok (.iaload, 1) := by decide +kernel
theorem d6_63 : decode prog_165_method_3_code 63 = .ok (.aload_n 0, 1) := by decide +kernel
theorem d6_64 : decode prog_165_method_3_code 64 = .ok (.getfield 13, 3) := by decide +kernel
theorem d6_67 : decode prog_165_method_3_code 67 = .ok (.iload_n 3, 1) := by decide +kernel
theorem d6_68 : decode prog_165_method_3_code 68 = .ok (.iaload, 1) := by decide +kernel
theorem d6_69 : decode prog_165_method_3_code 69 = .ok (.iadd, 1) := by decide +kernel
theorem d6_70 : decode prog_165_method_3_code 70 = .ok (.iastore, 1) := by decide +kernel
theorem d6_71 : decode prog_165_method_3_code 71 = .ok (.aload_n 0, 1) := by decide +kernel
theorem d6_72 : decode prog_165_method_3_code 72 = .ok (.getfield 22, 3) := by decide +kernel
theorem d6_75 : decode prog_165_method_3_code 75 = .ok (.aload_n 0, 1) := by decide +kernel
theorem d6_76 : decode prog_165_method_3_code 76 = .ok (.dup, 1) := by decide +kernel
theorem d6_77 : decode prog_165_method_3_code 77 = .ok (.getfield 29, 3) := by decide +kernel
theorem d6_80 : decode prog_165_method_3_code 80 = .ok (.dup_x1, 1) := by decide +kernel
theorem d6_81 : decode prog_165_method_3_code 81 = .ok (.iconst 1, 1) := by decide +kernel
theorem d6_82 : decode prog_165_method_3_code 82 = .ok (.iadd, 1) := by decide +kernel
theorem d6_83 : decode prog_165_method_3_code 83 = .ok (.putfield 29, 3) := by decide +kernel
theorem d6_86 : decode prog_165_method_3_code 86 = .ok (.iload_n 3, 1) := by decide +kernel
theorem d6_87 : decode prog_165_method_3_code 87 = .ok (.iastore, 1) := by decide +kernel
theorem d6_88 : decode prog_165_method_3_code 88 = .ok (.iconst 1, 1) := by decide +kernel
theorem d6_89 : decode prog_165_method_3_code 89 = .ok (.ireturn, 1) := by decide +kernel
theorem d8_0 : decode prog_165_method_4_code 0 = .ok (.aload_n 0, 1) := by decide +kernel
theorem d8_1 : decode prog_165_method_4_code 1 = .ok (.getfield 22, 3) := by decide +kernel
theorem d8_4 : decode prog_165_method_4_code 4 = .ok (.aload_n 0, 1) := by decide +kernel
theorem d8_5 : decode prog_165_method_4_code 5 = .ok (.dup, 1) := by decide +kernel
theorem d8_6 : decode prog_165_method_4_code 6 = .ok (.getfield 29, 3) := by decide +kernel
theorem d8_9 : decode prog_165_method_4_code 9 = .ok (.iconst 1, 1) := by decide +kernel
theorem d8_10 : decode prog_165_method_4_code 10 = .ok (.isub, 1) := by decide +kernel
theorem d8_11 : decode prog_165_method_4_code 11 = .ok (.dup_x1, 1) := by decide +kernel
theorem d8_12 : decode prog_165_method_4_code 12 = .ok (.putfield 29, 3) := by decide +kernel
theorem d8_15 : decode prog_165_method_4_code 15 = .ok (.iaload, 1) := by decide +kernel
theorem d8_16 : decode prog_165_method_4_code 16 = .ok (.istore_n 1, 1) := by decide +kernel
theorem d8_17 : decode prog_165_method_4_code 17 = .ok (.aload_n 0, 1) := by decide +kernel
theorem d8_18 : decode prog_165_method_4_code 18 = .ok (.getfield 13, 3) := by decide +kernel
theorem d8_21 : decode prog_165_method_4_code 21 = .ok (.aload_n 0, 1) := by decide +kernel
theorem d8_22 : decode prog_165_method_4_code 22 = .ok (.getfield 7, 3) := by decide +kernel
theorem d8_25 : decode prog_165_method_4_code 25 = .ok (.iload_n 1, 1) := by decide +kernel
theorem d8_26 : decode prog_165_method_4_code 26 = .ok (.iaload, 1) := by decide +kernel
theorem d8_27 : decode prog_165_method_4_code 27 = .ok (.dup2, 1) := by decide +kernel
theorem d8_28 : decode prog_165_method_4_code 28 = .ok (.iaload, 1) := by decide +kernel
theorem d8_29 : decode prog_165_method_4_code 29 = .ok (.aload_n 0, 1) := by decide +kernel
theorem d8_30 : decode prog_165_method_4_code 30 = .ok (.getfield 13, 3) := by decide +kernel
theorem d8_33 : decode prog_165_method_4_code 33 = .ok (.iload_n 1, 1) := by decide +kernel
theorem d8_34 : decode prog_165_method_4_code 34 = .ok (.iaload, 1) := by decide +kernel
theorem d8_35 : decode prog_165_method_4_code 35 = .ok (.isub, 1) := by decide +kernel
theorem d8_36 : decode prog_165_method_4_code 36 = .ok (.iastore, 1) := by decide +kernel
theorem d8_37 : decode prog_165_method_4_code 37 = .ok (.aload_n 0, 1) := by decide +kernel
theorem d8_38 : decode prog_165_method_4_code 38 = .ok (.getfield 7, 3) := by decide +kernel
theorem d8_41 : decode prog_165_method_4_code 41 = .ok (.iload_n 1, 1) := by decide +kernel
theorem d8_42 : decode prog_165_method_4_code 42 = .ok (.iload_n 1, 1) := by decide +kernel
theorem d8_43 : decode prog_165_method_4_code 43 = .ok (.iastore, 1) := by decide +kernel
theorem d8_44 : decode prog_165_method_4_code 44 = .ok (.return_, 1) := by decide +kernel
theorem d13_0 : decode prog_165_method_5_code 0 = .ok (.aload_n 0, 1) := by decide +kernel
theorem d13_1 : decode prog_165_method_5_code 1 = .ok (.getfield 7, 3) := by decide +kernel
theorem d13_4 : decode prog_165_method_5_code 4 = .ok (.arraylength, 1) := by decide +kernel
theorem d13_5 : decode prog_165_method_5_code 5 = .ok (.aload_n 0, 1) := by decide +kernel
theorem d13_6 : decode prog_165_method_5_code 6 = .ok (.getfield 29, 3) := by decide +kernel
theorem d13_9 : decode prog_165_method_5_code 9 = .ok (.isub, 1) := by decide +kernel
theorem d13_10 : decode prog_165_method_5_code 10 = .ok (.ireturn, 1) := by decide +kernel
theorem d4_0 : decode prog_165_method_1_code 0 = .ok (.aload_n 0, 1) := by decide +kernel
theorem d4_1 : decode prog_165_method_1_code 1 = .ok (.invokespecial 1, 3) := by decide +kernel
theorem d4_4 : decode prog_165_method_1_code 4 = .ok (.aload_n 0, 1) := by decide +kernel
theorem d4_5 : decode prog_165_method_1_code 5 = .ok (.iload_n 1, 1) := by decide +kernel
theorem d4_6 : decode prog_165_method_1_code 6 = .ok (.newarray .int, 2) := by decide +kernel
theorem d4_8 : decode prog_165_method_1_code 8 = .ok (.putfield 7, 3) := by decide +kernel
theorem d4_11 : decode prog_165_method_1_code 11 = .ok (.aload_n 0, 1) := by decide +kernel
theorem d4_12 : decode prog_165_method_1_code 12 = .ok (.iload_n 1, 1) := by decide +kernel
theorem d4_13 : decode prog_165_method_1_code 13 = .ok (.newarray .int, 2) := by decide +kernel
theorem d4_15 : decode prog_165_method_1_code 15 = .ok (.putfield 13, 3) := by decide +kernel
theorem d4_18 : decode prog_165_method_1_code 18 = .ok (.aload_n 0, 1) := by decide +kernel
theorem d4_19 : decode prog_165_method_1_code 19 = .ok (.iconst 0, 1) := by decide +kernel
theorem d4_20 : decode prog_165_method_1_code 20 = .ok (.iload_n 1, 1) := by decide +kernel
theorem d4_21 : decode prog_165_method_1_code 21 = .ok (.iconst 1, 1) := by decide +kernel
theorem d4_22 : decode prog_165_method_1_code 22 = .ok (.isub, 1) := by decide +kernel
theorem d4_23 : decode prog_165_method_1_code 23 = .ok (.invokestatic 16, 3) := by decide +kernel
theorem d4_26 : decode prog_165_method_1_code 26 = .ok (.newarray .int, 2) := by decide +kernel
theorem d4_28 : decode prog_165_method_1_code 28 = .ok (.putfield 22, 3) := by decide +kernel
theorem d4_31 : decode prog_165_method_1_code 31 = .ok (.iconst 0, 1) := by decide +kernel
theorem d4_32 : decode prog_165_method_1_code 32 = .ok (.istore_n 2, 1) := by decide +kernel
theorem d4_33 : decode prog_165_method_1_code 33 = .ok (.iload_n 2, 1) := by decide +kernel
theorem d4_34 : decode prog_165_method_1_code 34 = .ok (.iload_n 1, 1) := by decide +kernel
theorem d4_35 : decode prog_165_method_1_code 35 = .ok (.if_icmp .ge 23, 3) := by decide +kernel
theorem d4_38 : decode prog_165_method_1_code 38 = .ok (.aload_n 0, 1) := by decide +kernel
theorem d4_39 : decode prog_165_method_1_code 39 = .ok (.getfield 7, 3) := by decide +kernel
theorem d4_42 : decode prog_165_method_1_code 42 = .ok (.iload_n 2, 1) := by decide +kernel
theorem d4_43 : decode prog_165_method_1_code 43 = .ok (.iload_n 2, 1) := by decide +kernel
theorem d4_44 : decode prog_165_method_1_code 44 = .ok (.iastore, 1) := by decide +kernel
theorem d4_45 : decode prog_165_method_1_code 45 = .ok (.aload_n 0, 1) := by decide +kernel
theorem d4_46 : decode prog_165_method_1_code 46 = .ok (.getfield 13, 3) := by decide +kernel
theorem d4_49 : decode prog_165_method_1_code 49 = .ok (.iload_n 2, 1) := by decide +kernel
theorem d4_50 : decode prog_165_method_1_code 50 = .ok (.iconst 1, 1) := by decide +kernel
theorem d4_51 : decode prog_165_method_1_code 51 = .ok (.iastore, 1) := by decide +kernel
theorem d4_52 : decode prog_165_method_1_code 52 = .ok (.iinc 2 1, 3) := by decide +kernel
theorem d4_55 : decode prog_165_method_1_code 55 = .ok (.goto (-22), 3) := by decide +kernel
theorem d4_58 : decode prog_165_method_1_code 58 = .ok (.return_, 1) := by decide +kernel
theorem d5_0 : decode jdk_29_method_65_code 0 = .ok (.iload_n 0, 1) := by decide +kernel
theorem d5_1 : decode jdk_29_method_65_code 1 = .ok (.iload_n 1, 1) := by decide +kernel
theorem d5_2 : decode jdk_29_method_65_code 2 = .ok (.if_icmp .lt 7, 3) := by decide +kernel
theorem d5_5 : decode jdk_29_method_65_code 5 = .ok (.iload_n 0, 1) := by decide +kernel
theorem d5_6 : decode jdk_29_method_65_code 6 = .ok (.goto 4, 3) := by decide +kernel
theorem d5_9 : decode jdk_29_method_65_code 9 = .ok (.iload_n 1, 1) := by decide +kernel
theorem d5_10 : decode jdk_29_method_65_code 10 = .ok (.ireturn, 1) := by decide +kernel
/-! ## UnionFind, plain -/
abbrev UFS : Type := List Nat × List Nat × List Nat × Nat
def findF (par : List Nat) : Nat → Nat → Option Nat
  | 0, _ => none
  | f + 1, r => match par[r]? with
    | none => none
    | some p => if p = r then some r else findF par f p
def hangF (u : UFS) (s l zs zl : Nat) : UFS := (u.1.set s l, u.2.1.set l (zl + zs), u.2.2.1.set u.2.2.2 s, u.2.2.2 + 1)
def unionF (u : UFS) (a b : Nat) : Option (Nat × UFS) :=
  match findF u.1 8 a with
  | none => none
  | some s => match findF u.1 8 b with
    | none => none
    | some l => if s = l then some (0, u) else match u.2.1[s]? with
      | none => none
      | some zs => match u.2.1[l]? with
        | none => none
        | some zl => if zs < 100 ∧ zl < 100 ∧ u.2.2.2 < u.2.2.1.length then (if zl < zs then some (1, hangF u l s zl zs) else some (1, hangF u s l zs zl)) else none
def undoF (u : UFS) : Option UFS :=
  if 0 < u.2.2.2 then match u.2.2.1[u.2.2.2 - 1]? with
    | none => none
    | some r => match u.1[r]? with
      | none => none
      | some p => match u.2.1[p]? with
        | none => none
        | some zp => match u.2.1[r]? with
          | none => none
          | some zr => if zr ≤ zp ∧ zp < 100 ∧ u.2.2.2 < 100 then some (u.1.set r r, u.2.1.set p (zp - zr), u.2.2.1, u.2.2.2 - 1) else none
  else none
theorem findF_self {par : List Nat} : ∀ {f r y : Nat}, findF par f r = some y → par[y]? = some y
  | 0, r, y, h => by cases h
  | f + 1, r, y, h => by
    unfold findF at h
    cases hp : par[r]? with
    | none => rw [hp] at h; cases h
    | some p =>
      rw [hp] at h
      dsimp only at h
      by_cases e : p = r
      · rw [if_pos e] at h; cases h; rw [hp, e]
      · rw [if_neg e] at h; exact findF_self h
theorem findF_lt {par : List Nat} {f r y : Nat} (h : findF par f r = some y) : r < par.length := by
  cases f with
  | zero => cases h
  | succ f =>
    unfold findF at h
    cases hp : par[r]? with
    | none => rw [hp] at h; cases h
    | some p => exact (List.getElem?_eq_some_iff.mp hp).1
theorem i_inj {a b : Nat} (ha : a < 2 ^ 31) (hb : b < 2 ^ 31) (h : Int32.ofNat a = Int32.ofNat b) : a = b := by
  have q := congrArg Int32.toInt h
  rw [nat_i ha, nat_i hb] at q; omega
abbrev R0 : Room := { frames := 0, cells := 0, slots := 0, locals := 0 }
abbrev RU : Room := { frames := 1, cells := 0, slots := 0, locals := 14 }
abbrev RI : Room := { frames := 1, cells := 3, slots := 8, locals := 14 }
def Uf (Z : State) (h : Heap) (a pa sa ha : Nat) (u : UFS) : Prop := Exa Z h a "com/example/joinweave/joinweave/graph/UnionFind" ∧ Fld Z h a "com/example/joinweave/joinweave/graph/UnionFind" "parent" "[I" (.ref pa) ∧ Fld Z h a "com/example/joinweave/joinweave/graph/UnionFind" "size" "[I" (.ref sa) ∧ Fld Z h a "com/example/joinweave/joinweave/graph/UnionFind" "hung" "[I" (.ref ha) ∧ Fld Z h a "com/example/joinweave/joinweave/graph/UnionFind" "unions" "I" (.int (Int32.ofNat u.2.2.2)) ∧ An Z h pa .int u.1 ∧ An Z h sa .int u.2.1 ∧ An Z h ha .int u.2.2.1 ∧ pa ≠ sa ∧ pa ≠ ha ∧ sa ≠ ha ∧ a ≠ pa ∧ a ≠ sa ∧ a ≠ ha
theorem Uf.ext {Z : State} {h h' : Heap} {a pa sa ha : Nat} {u : UFS} (F : Uf Z h a pa sa ha u) (x : Ext h h') : Uf Z h' a pa sa ha u := by
  obtain ⟨f1, f2, f3, f4, f5, f6, f7, f8, r⟩ := F
  exact ⟨f1.ext x, f2.ext x, f3.ext x, f4.ext x, f5.ext x, Ai.ext f6 x, Ai.ext f7 x, Ai.ext f8 x, r⟩
theorem Uf.keep {Z : State} {h h' : Heap} {a pa sa ha : Nat} {u : UFS} {ws : List Nat} (F : Uf Z h a pa sa ha u) (K : Keep h h' ws) (q1 : a ∉ ws) (q2 : pa ∉ ws) (q3 : sa ∉ ws) (q4 : ha ∉ ws) : Uf Z h' a pa sa ha u := by
  obtain ⟨f1, f2, f3, f4, f5, f6, f7, f8, r⟩ := F
  exact ⟨f1.keep K, f2.keep K q1, f3.keep K q1, f4.keep K q1, f5.keep K q1, Ai.keep f6 K q2, Ai.keep f7 K q3, Ai.keep f8 K q4, r⟩
theorem Uf.other {Z : State} {h h' : Heap} {a pa sa ha : Nat} {u : UFS} {b : Nat} {sl : Nat} {v : Value} (F : Uf Z h a pa sa ha u) (W : Wr h h' b sl v) (q1 : a ≠ b) (q2 : pa ≠ b) (q3 : sa ≠ b) (q4 : ha ≠ b) : Uf Z h' a pa sa ha u := F.keep (Keep.of_wr W) (ninS q1 nin0) (ninS q2 nin0) (ninS q3 nin0) (ninS q4 nin0)
theorem Uf.lt {Z : State} {h : Heap} {a pa sa ha : Nat} {u : UFS} (F : Uf Z h a pa sa ha u) : a < h.size ∧ pa < h.size ∧ sa < h.size ∧ ha < h.size := ⟨exa_lt F.1, Ai.lt F.2.2.2.2.2.1, Ai.lt F.2.2.2.2.2.2.1, Ai.lt F.2.2.2.2.2.2.2.1⟩
theorem Uf.wP {Z : State} {h h' : Heap} {a pa sa ha : Nat} {p s g : List Nat} {n i v : Nat} (F : Uf Z h a pa sa ha (p, s, g, n)) (W : Wr h h' pa i (.int (Int32.ofNat v))) : Uf Z h' a pa sa ha (p.set i v, s, g, n) := by
  obtain ⟨f1, f2, f3, f4, f5, f6, f7, f8, d1, d2, d3, d4, d5, d6⟩ := F
  exact ⟨f1.wr W, f2.other W (Or.inl d4), f3.other W (Or.inl d4), f4.other W (Or.inl d4), f5.other W (Or.inl d4), An.setW f6 W, Ai.other f7 W (Ne.symm d1), Ai.other f8 W (Ne.symm d2), d1, d2, d3, d4, d5, d6⟩
theorem Uf.wS {Z : State} {h h' : Heap} {a pa sa ha : Nat} {p s g : List Nat} {n i v : Nat} (F : Uf Z h a pa sa ha (p, s, g, n)) (W : Wr h h' sa i (.int (Int32.ofNat v))) : Uf Z h' a pa sa ha (p, s.set i v, g, n) := by
  obtain ⟨f1, f2, f3, f4, f5, f6, f7, f8, d1, d2, d3, d4, d5, d6⟩ := F
  exact ⟨f1.wr W, f2.other W (Or.inl d5), f3.other W (Or.inl d5), f4.other W (Or.inl d5), f5.other W (Or.inl d5), Ai.other f6 W d1, An.setW f7 W, Ai.other f8 W (Ne.symm d3), d1, d2, d3, d4, d5, d6⟩
theorem Uf.wG {Z : State} {h h' : Heap} {a pa sa ha : Nat} {p s g : List Nat} {n i v : Nat} (F : Uf Z h a pa sa ha (p, s, g, n)) (W : Wr h h' ha i (.int (Int32.ofNat v))) : Uf Z h' a pa sa ha (p, s, g.set i v, n) := by
  obtain ⟨f1, f2, f3, f4, f5, f6, f7, f8, d1, d2, d3, d4, d5, d6⟩ := F
  exact ⟨f1.wr W, f2.other W (Or.inl d6), f3.other W (Or.inl d6), f4.other W (Or.inl d6), f5.other W (Or.inl d6), Ai.other f6 W d2, Ai.other f7 W d3, An.setW f8 W, d1, d2, d3, d4, d5, d6⟩
theorem Uf.wN {Z : State} {a0 : Array Value} (hw : ∀ d ∈ tables_1, d.before a0 Z = true) {h h' : Heap} {a pa sa ha : Nat} {p s g : List Nat} {n m : Nat} (F : Uf Z h a pa sa ha (p, s, g, n)) (W : Wr h h' a (Jvm.RoadKit.slotOf Z "com/example/joinweave/joinweave/graph/UnionFind" "unions" "I") (.int (Int32.ofNat m))) : Uf Z h' a pa sa ha (p, s, g, m) := by
  obtain ⟨f1, f2, f3, f4, f5, f6, f7, f8, d1, d2, d3, d4, d5, d6⟩ := F
  exact ⟨f1.wr W, f2.other W (Or.inr (slot_ne (Or.inr (own_w hw (i := 34) rfl)) (Or.inl (own_w hw (i := 57) rfl)) (by decide) (t := (.array .int)) (t' := .int) (by decide) (by decide))), f3.other W (Or.inr (slot_ne (Or.inr (own_w hw (i := 36) rfl)) (Or.inl (own_w hw (i := 57) rfl)) (by decide) (t := (.array .int)) (t' := .int) (by decide) (by decide))), f4.other W (Or.inr (slot_ne (Or.inr (own_w hw (i := 42) rfl)) (Or.inl (own_w hw (i := 57) rfl)) (by decide) (t := (.array .int)) (t' := .int) (by decide) (by decide))), f5.same W, Ai.other f6 W (Ne.symm d4), Ai.other f7 W (Ne.symm d5), Ai.other f8 W (Ne.symm d6), d1, d2, d3, d4, d5, d6⟩
def Qi (y : Nat) (h0 : Heap) (v : Option Value) (h : Heap) : Prop := v = some (.int (Int32.ofNat y)) ∧ h0 = h
def QU (Z : State) (h0 : Heap) (a pa sa ha : Nat) (r : Nat) (u : UFS) (v : Option Value) (h : Heap) : Prop := v = some (.int (Int32.ofNat r)) ∧ Keep h0 h [a, pa, sa, ha] ∧ Uf Z h a pa sa ha u
def QD (Z : State) (h0 : Heap) (a pa sa ha : Nat) (u : UFS) (v : Option Value) (h : Heap) : Prop := v = none ∧ Keep h0 h [a, pa, sa, ha] ∧ Uf Z h a pa sa ha u
set_option maxRecDepth 65536 in
set_option maxHeartbeats 4000000 in
theorem loopF (Z : State) (a0 : Array Value) (hw : ∀ d ∈ tables_1, d.before a0 Z = true) (E : Noise) (C : Cx E Z "com/example/joinweave/joinweave/graph/UnionFind" "find" prog_165_method_2_code 3 (some .int)) (a pa : Nat) (par : List Nat) (y : Nat) (h0 : Heap) (n0 : Nat) (F : Fld Z h0 a "com/example/joinweave/joinweave/graph/UnionFind" "parent" "[I" (.ref pa)) (A : An Z h0 pa .int par) : ∀ (fuel r : Nat) (e : Int32), findF par fuel r = some y → Go E R0 n0 (Qi y h0) h0 0 0 2 #[.val (.ref a), .val (.int e), .val (.int (Int32.ofNat r))] [] := by
  intro fuel
  induction fuel with
  | zero => intro r e h; cases h
  | succ f ih =>
    intro r e hr
    have hlt := findF_lt hr
    have hsm := An.small A
    unfold findF at hr
    cases hp : par[r]? with
    | none => rw [hp] at hr; cases hr
    | some p =>
      rw [hp] at hr
      dsimp only at hr
      by_cases e1 : p = r
      · rw [if_pos e1] at hr
        obtain rfl : r = y := Option.some.inj hr
        refine go_aloadN C (pc' := 3) d7_2 rfl rfl rfl ?_
        refine go_getF C (pc' := 6) (own_w hw (i := 33) rfl) F d7_3 rfl ?_
        refine go_iloadN C (pc' := 7) d7_6 rfl rfl ?_
        refine go_nload C (pc' := 8) A hp d7_7 rfl ?_
        refine go_iloadN C (pc' := 9) d7_8 rfl rfl ?_
        refine go_icY C (pc' := 22) d7_9 (teq (by rw [e1])).1 (by decide) (by decide) ?_
        refine go_iloadN C (pc' := 23) d7_22 rfl rfl ?_
        refine go_retI C d7_23 (by decide) (by decide) ?_
        exact ⟨rfl, rfl⟩
      · rw [if_neg e1] at hr
        refine go_aloadN C (pc' := 3) d7_2 rfl rfl rfl ?_
        refine go_getF C (pc' := 6) (own_w hw (i := 33) rfl) F d7_3 rfl ?_
        refine go_iloadN C (pc' := 7) d7_6 rfl rfl ?_
        refine go_nload C (pc' := 8) A hp d7_7 rfl ?_
        refine go_iloadN C (pc' := 9) d7_8 rfl rfl ?_
        refine go_icN C (pc' := 12) d7_9 (feq (fun q => e1 (i_inj (Nat.lt_trans (findF_lt hr) hsm) (Nat.lt_trans hlt hsm) q))).1 rfl ?_
        refine go_aloadN C (pc' := 13) d7_12 rfl rfl rfl ?_
        refine go_getF C (pc' := 16) (own_w hw (i := 33) rfl) F d7_13 rfl ?_
        refine go_iloadN C (pc' := 17) d7_16 rfl rfl ?_
        refine go_nload C (pc' := 18) A hp d7_17 rfl ?_
        refine go_istoreN C (pc' := 19) (Ls' := #[.val (.ref a), .val (.int e), .val (.int (Int32.ofNat p))]) d7_18 rfl rfl ?_
        refine go_goto C (pc' := 2) d7_19 (by decide) (by decide) ?_
        exact ih p e hr
set_option maxRecDepth 65536 in
set_option maxHeartbeats 4000000 in
theorem rmFind (Z : State) (a0 : Array Value) (hw : ∀ d ∈ tables_1, d.before a0 Z = true) (a pa sa ha : Nat) (u : UFS) (r y : Nat) (h0 : Heap) (n0 : Nat) (hU : Uf Z h0 a pa sa ha u) (hr : findF u.1 8 r = some y) : Met Z (⟨"com/example/joinweave/joinweave/graph/UnionFind", "find", "(I)I"⟩ : MethodName) prog_165_method_2_code 3 (some .int) R0 #[.ref a, .int (Int32.ofNat r)] h0 n0 (Qi y h0) := by
  refine met_of (Ls := #[.val (.ref a), .val (.int (Int32.ofNat r)), .unset]) (plainFor_of_name pn2) (fun m => by first | (simp [entryFrame, mkF, argsToLocals, Value.category]; done) | rfl) ?_
  intro E (C : Cx E Z "com/example/joinweave/joinweave/graph/UnionFind" "find" prog_165_method_2_code 3 (some .int))
  refine go_iloadN C (pc' := 1) d7_0 rfl rfl ?_
  refine go_istoreN C (pc' := 2) (Ls' := #[.val (.ref a), .val (.int (Int32.ofNat r)), .val (.int (Int32.ofNat r))]) d7_1 rfl rfl ?_
  exact loopF Z a0 hw E C a pa u.1 y h0 n0 hU.2.1 hU.2.2.2.2.2.1 8 r _ hr
theorem i_sub {a b : Nat} (h : b ≤ a) : Int32.ofNat a - Int32.ofNat b = Int32.ofNat (a - b) := by
  have q : Int32.ofNat a = Int32.ofNat (a - b) + Int32.ofNat b := by rw [← Int32.ofNat_add, Nat.sub_add_cancel h]
  rw [q, Int32.add_sub_cancel]
theorem i_add (a b : Nat) : Int32.ofNat a + Int32.ofNat b = Int32.ofNat (a + b) := (Int32.ofNat_add ..).symm
set_option maxRecDepth 65536 in
set_option maxHeartbeats 4000000 in
theorem rmSets (Z : State) (a0 : Array Value) (hw : ∀ d ∈ tables_1, d.before a0 Z = true) (a pa sa ha : Nat) (u : UFS) (h0 : Heap) (n0 : Nat) (hU : Uf Z h0 a pa sa ha u) (hle : u.2.2.2 ≤ u.1.length) : Met Z (⟨"com/example/joinweave/joinweave/graph/UnionFind", "sets", "()I"⟩ : MethodName) prog_165_method_5_code 1 (some .int) R0 #[.ref a] h0 n0 (Qi (u.1.length - u.2.2.2) h0) := by
  refine met_of (Ls := #[.val (.ref a)]) (plainFor_of_name pn2) (fun m => by first | (simp [entryFrame, mkF, argsToLocals, Value.category]; done) | rfl) ?_
  intro E (C : Cx E Z "com/example/joinweave/joinweave/graph/UnionFind" "sets" prog_165_method_5_code 1 (some .int))
  refine go_aloadN C (pc' := 1) d13_0 rfl rfl rfl ?_
  refine go_getF C (pc' := 4) (own_w hw (i := 33) rfl) hU.2.1 d13_1 rfl ?_
  refine go_nalen C (pc' := 5) hU.2.2.2.2.2.1 d13_4 rfl ?_
  refine go_aloadN C (pc' := 6) d13_5 rfl rfl rfl ?_
  refine go_getF C (pc' := 9) (own_w hw (i := 56) rfl) hU.2.2.2.2.1 d13_6 rfl ?_
  refine go_isub C (pc' := 10) d13_9 rfl ?_
  refine go_retI C d13_10 (by decide) (by decide) ?_
  exact ⟨by rw [i_sub hle], rfl⟩
set_option maxRecDepth 65536 in
set_option maxHeartbeats 4000000 in
theorem hang (Z : State) (a0 : Array Value) (hw : ∀ d ∈ tables_1, d.before a0 Z = true) (E : Noise) (C : Cx E Z "com/example/joinweave/joinweave/graph/UnionFind" "union" prog_165_method_3_code 6 (some .boolean)) (a pa sa ha : Nat) (p z g : List Nat) (n s l zs zl : Nat) (x y : Int32) (X : Slot) (h0 : Heap) (n0 : Nat) (ge : n0 ≤ a ∧ n0 ≤ pa ∧ n0 ≤ sa ∧ n0 ≤ ha) (U0 : Uf Z h0 a pa sa ha (p, z, g, n)) (K0 : Keep h0 h0 [a, pa, sa, ha]) (hs : s < p.length) (hzs : z[s]? = some zs) (hzl : z[l]? = some zl) (hn : n < g.length) : Go E RU n0 (QU Z h0 a pa sa ha 1 (hangF (p, z, g, n) s l zs zl)) h0 0 0 47 #[.val (.ref a), .val (.int x), .val (.int y), .val (.int (Int32.ofNat s)), .val (.int (Int32.ofNat l)), X] [] := by
  refine go_aloadN C (pc' := 48) d6_47 rfl rfl rfl ?_
  refine go_getF C (pc' := 51) (own_w hw (i := 33) rfl) U0.2.1 d6_48 rfl ?_
  refine go_iloadN C (pc' := 52) d6_51 rfl rfl ?_
  refine go_iload C (pc' := 54) d6_52 rfl rfl ?_
  refine go_nstore C (pc' := 55) U0.2.2.2.2.2.1 hs ge.2.1 d6_54 rfl ?_
  intro h1 W1
  have U1 := U0.wP W1
  have K1 := K0.wr W1 (Or.inl (List.mem_of_getElem? (i := 1) rfl))
  refine go_aloadN C (pc' := 56) d6_55 rfl rfl rfl ?_
  refine go_getF C (pc' := 59) (own_w hw (i := 35) rfl) U1.2.2.1 d6_56 rfl ?_
  refine go_iload C (pc' := 61) d6_59 rfl rfl ?_
  refine go_dup2 C (pc' := 62) d6_61 rfl rfl rfl ?_
  refine go_nload C (pc' := 63) U1.2.2.2.2.2.2.1 hzl d6_62 rfl ?_
  refine go_aloadN C (pc' := 64) d6_63 rfl rfl rfl ?_
  refine go_getF C (pc' := 67) (own_w hw (i := 35) rfl) U1.2.2.1 d6_64 rfl ?_
  refine go_iloadN C (pc' := 68) d6_67 rfl rfl ?_
  refine go_nload C (pc' := 69) U1.2.2.2.2.2.2.1 hzs d6_68 rfl ?_
  refine go_iadd C (pc' := 70) d6_69 rfl ?_
  rw [i_add zl zs]
  refine go_nstore C (pc' := 71) U1.2.2.2.2.2.2.1 (List.getElem?_eq_some_iff.mp hzl).1 ge.2.2.1 d6_70 rfl ?_
  intro h2 W2
  have U2 := U1.wS W2
  have K2 := K1.wr W2 (Or.inl (List.mem_of_getElem? (i := 2) rfl))
  refine go_aloadN C (pc' := 72) d6_71 rfl rfl rfl ?_
  refine go_getF C (pc' := 75) (own_w hw (i := 41) rfl) U2.2.2.2.1 d6_72 rfl ?_
  refine go_aloadN C (pc' := 76) d6_75 rfl rfl rfl ?_
  refine go_dup C (pc' := 77) d6_76 rfl rfl ?_
  refine go_getF C (pc' := 80) (own_w hw (i := 56) rfl) U2.2.2.2.2.1 d6_77 rfl ?_
  refine go_dupX1 C (pc' := 81) d6_80 rfl rfl rfl ?_
  refine go_iconst C (pc' := 82) (z := 1) d6_81 rfl rfl ?_
  refine go_iadd C (pc' := 83) d6_82 rfl ?_
  rw [show Int32.ofNat n + (1 : Int32) = Int32.ofNat (n + 1) from i_add n 1]
  refine go_putF C (pc' := 86) (ty := .int) (own_w hw (i := 56) rfl) U2.2.2.2.2.1 U2.1 (Or.inl (own_w hw (i := 57) rfl)) (own_w hw (i := 27) rfl) (by decide) rfl rfl ge.1 d6_83 rfl ?_
  intro h3 W3
  have U3 := U2.wN hw W3
  have K3 := K2.wr W3 (Or.inl (List.mem_of_getElem? (i := 0) rfl))
  refine go_iloadN C (pc' := 87) d6_86 rfl rfl ?_
  refine go_nstore C (pc' := 88) U3.2.2.2.2.2.2.2.1 hn ge.2.2.2 d6_87 rfl ?_
  intro h4 W4
  have U4 := U3.wG W4
  have K4 := K3.wr W4 (Or.inl (List.mem_of_getElem? (i := 3) rfl))
  refine go_iconst C (pc' := 89) (z := 1) d6_88 rfl rfl ?_
  refine go_retZ C d6_89 (by decide) (by decide) (by decide) ?_
  exact ⟨rfl, K4, U4⟩
set_option maxRecDepth 65536 in
set_option maxHeartbeats 4000000 in
theorem rmU (Z : State) (a0 : Array Value) (hw : ∀ d ∈ tables_1, d.before a0 Z = true) (a pa sa ha : Nat) (u u' : UFS) (x y r : Nat) (h0 : Heap) (n0 : Nat) (ge : n0 ≤ a ∧ n0 ≤ pa ∧ n0 ≤ sa ∧ n0 ≤ ha) (hU : Uf Z h0 a pa sa ha u) (hr : unionF u x y = some (r, u')) : Met Z (⟨"com/example/joinweave/joinweave/graph/UnionFind", "union", "(II)Z"⟩ : MethodName) prog_165_method_3_code 6 (some .boolean) RU #[.ref a, .int (Int32.ofNat x), .int (Int32.ofNat y)] h0 n0 (QU Z h0 a pa sa ha r u') := by
  refine met_of (Ls := #[.val (.ref a), .val (.int (Int32.ofNat x)), .val (.int (Int32.ofNat y)), .unset, .unset, .unset]) (plainFor_of_name pn2) (fun m => by first | (simp [entryFrame, mkF, argsToLocals, Value.category]; done) | rfl) ?_
  intro E (C : Cx E Z "com/example/joinweave/joinweave/graph/UnionFind" "union" prog_165_method_3_code 6 (some .boolean))
  unfold unionF at hr
  cases hs : findF u.1 8 x with
  | none => rw [hs] at hr; cases hr
  | some s =>
    rw [hs] at hr
    dsimp only at hr
    cases hl : findF u.1 8 y with
    | none => rw [hl] at hr; cases hr
    | some l =>
      rw [hl] at hr
      dsimp only at hr
      have hsl := (List.getElem?_eq_some_iff.mp (findF_self hs)).1
      have hll := (List.getElem?_eq_some_iff.mp (findF_self hl)).1
      have hsm := An.small hU.2.2.2.2.2.1
      refine go_aloadN C (pc' := 1) d6_0 rfl rfl rfl ?_
      refine go_iloadN C (pc' := 2) d6_1 rfl rfl ?_
      refine go_callV C (pc' := 5) (k' := 0) (n' := 0) (argsL := [(.int (Int32.ofNat x))]) (rest := []) (own_w hw (i := 51) rfl) (own_w hw (i := 52) rfl) (own_w hw (i := 54) rfl) (own_w hw (i := 53) rfl) (own_w hw (i := 28) rfl) (own_w hw (i := 55) rfl) (hU.1) (rmFind Z a0 hw a pa sa ha u x s h0 n0 hU hs) d6_2 rfl rfl (lenOf pd6 rfl) (by decide) (by decide) 0 rfl (by decide) rfl rfl (by decide) (by decide) rfl ?_
      rintro _ _ ⟨rfl, rfl⟩
      show Go E RU n0 (QU Z h0 a pa sa ha r u') h0 0 0 5 #[.val (.ref a), .val (.int (Int32.ofNat x)), .val (.int (Int32.ofNat y)), .unset, .unset, .unset] [(.int (Int32.ofNat s))]
      refine go_istoreN C (pc' := 6) (Ls' := #[.val (.ref a), .val (.int (Int32.ofNat x)), .val (.int (Int32.ofNat y)), .val (.int (Int32.ofNat s)), .unset, .unset]) d6_5 rfl rfl ?_
      refine go_aloadN C (pc' := 7) d6_6 rfl rfl rfl ?_
      refine go_iloadN C (pc' := 8) d6_7 rfl rfl ?_
      refine go_callV C (pc' := 11) (k' := 0) (n' := 0) (argsL := [(.int (Int32.ofNat y))]) (rest := []) (own_w hw (i := 51) rfl) (own_w hw (i := 52) rfl) (own_w hw (i := 54) rfl) (own_w hw (i := 53) rfl) (own_w hw (i := 28) rfl) (own_w hw (i := 55) rfl) (hU.1) (rmFind Z a0 hw a pa sa ha u y l h0 n0 hU hl) d6_8 rfl rfl (lenOf pd6 rfl) (by decide) (by decide) 0 rfl (by decide) rfl rfl (by decide) (by decide) rfl ?_
      rintro _ _ ⟨rfl, rfl⟩
      show Go E RU n0 (QU Z h0 a pa sa ha r u') h0 0 0 11 #[.val (.ref a), .val (.int (Int32.ofNat x)), .val (.int (Int32.ofNat y)), .val (.int (Int32.ofNat s)), .unset, .unset] [(.int (Int32.ofNat l))]
      refine go_istore C (pc' := 13) (Ls' := #[.val (.ref a), .val (.int (Int32.ofNat x)), .val (.int (Int32.ofNat y)), .val (.int (Int32.ofNat s)), .val (.int (Int32.ofNat l)), .unset]) d6_11 rfl rfl ?_
      refine go_iloadN C (pc' := 14) d6_13 rfl rfl ?_
      refine go_iload C (pc' := 16) d6_14 rfl rfl ?_
      by_cases e1 : s = l
      · rw [if_pos e1] at hr
        cases hr
        refine go_icN C (pc' := 19) d6_16 (teq (by rw [e1])).2 rfl ?_
        refine go_iconst C (pc' := 20) (z := 0) d6_19 rfl rfl ?_
        refine go_retZ C d6_20 (by decide) (by decide) (by decide) ?_
        exact ⟨rfl, Keep.refl _ _, hU⟩
      · rw [if_neg e1] at hr
        refine go_icY C (pc' := 21) d6_16 (feq (fun q => e1 (i_inj (Nat.lt_trans hsl hsm) (Nat.lt_trans hll hsm) q))).2 (by decide) (by decide) ?_
        cases hzs : u.2.1[s]? with
        | none => rw [hzs] at hr; cases hr
        | some zs =>
          rw [hzs] at hr
          dsimp only at hr
          cases hzl : u.2.1[l]? with
          | none => rw [hzl] at hr; cases hr
          | some zl =>
            rw [hzl] at hr
            dsimp only at hr
            by_cases c1 : zs < 100 ∧ zl < 100 ∧ u.2.2.2 < u.2.2.1.length
            · rw [if_pos c1] at hr
              refine go_aloadN C (pc' := 22) d6_21 rfl rfl rfl ?_
              refine go_getF C (pc' := 25) (own_w hw (i := 35) rfl) hU.2.2.1 d6_22 rfl ?_
              refine go_iloadN C (pc' := 26) d6_25 rfl rfl ?_
              refine go_nload C (pc' := 27) hU.2.2.2.2.2.2.1 hzs d6_26 rfl ?_
              refine go_aloadN C (pc' := 28) d6_27 rfl rfl rfl ?_
              refine go_getF C (pc' := 31) (own_w hw (i := 35) rfl) hU.2.2.1 d6_28 rfl ?_
              refine go_iload C (pc' := 33) d6_31 rfl rfl ?_
              refine go_nload C (pc' := 34) hU.2.2.2.2.2.2.1 hzl d6_33 rfl ?_
              by_cases c2 : zl < zs
              · rw [if_pos c2] at hr
                cases hr
                refine go_icN C (pc' := 37) d6_34 (Bool.eq_false_iff.mpr fun q => by have q2 : (Int32.ofNat zs).toInt ≤ (Int32.ofNat zl).toInt := (rel_holds .le _ _).mp q; rw [nat_i (by omega), nat_i (by omega)] at q2; omega) rfl ?_
                refine go_iloadN C (pc' := 38) d6_37 rfl rfl ?_
                refine go_istore C (pc' := 40) (Ls' := #[.val (.ref a), .val (.int (Int32.ofNat x)), .val (.int (Int32.ofNat y)), .val (.int (Int32.ofNat s)), .val (.int (Int32.ofNat l)), .val (.int (Int32.ofNat s))]) d6_38 rfl rfl ?_
                refine go_iload C (pc' := 42) d6_40 rfl rfl ?_
                refine go_istoreN C (pc' := 43) (Ls' := #[.val (.ref a), .val (.int (Int32.ofNat x)), .val (.int (Int32.ofNat y)), .val (.int (Int32.ofNat l)), .val (.int (Int32.ofNat l)), .val (.int (Int32.ofNat s))]) d6_42 rfl rfl ?_
                refine go_iload C (pc' := 45) d6_43 rfl rfl ?_
                refine go_istore C (pc' := 47) (Ls' := #[.val (.ref a), .val (.int (Int32.ofNat x)), .val (.int (Int32.ofNat y)), .val (.int (Int32.ofNat l)), .val (.int (Int32.ofNat s)), .val (.int (Int32.ofNat s))]) d6_45 rfl rfl ?_
                exact hang Z a0 hw E C a pa sa ha u.1 u.2.1 u.2.2.1 u.2.2.2 l s zl zs _ _ _ h0 n0 ge hU (Keep.refl _ _) hll hzl hzs c1.2.2
              · rw [if_neg c2] at hr
                cases hr
                refine go_icY C (pc' := 47) d6_34 ((rel_holds .le _ _).mpr (by show (Int32.ofNat zs).toInt ≤ (Int32.ofNat zl).toInt; rw [nat_i (by omega), nat_i (by omega)]; omega)) (by decide) (by decide) ?_
                exact hang Z a0 hw E C a pa sa ha u.1 u.2.1 u.2.2.1 u.2.2.2 s l zs zl _ _ _ h0 n0 ge hU (Keep.refl _ _) hsl hzs hzl c1.2.2
            · rw [if_neg c1] at hr; cases hr
set_option maxRecDepth 65536 in
set_option maxHeartbeats 4000000 in
theorem rmD (Z : State) (a0 : Array Value) (hw : ∀ d ∈ tables_1, d.before a0 Z = true) (a pa sa ha : Nat) (u u' : UFS) (h0 : Heap) (n0 : Nat) (ge : n0 ≤ a ∧ n0 ≤ pa ∧ n0 ≤ sa ∧ n0 ≤ ha) (hU : Uf Z h0 a pa sa ha u) (hr : undoF u = some u') : Met Z (⟨"com/example/joinweave/joinweave/graph/UnionFind", "undo", "()V"⟩ : MethodName) prog_165_method_4_code 2 none R0 #[.ref a] h0 n0 (QD Z h0 a pa sa ha u') := by
  refine met_of (Ls := #[.val (.ref a), .unset]) (plainFor_of_name pn2) (fun m => by first | (simp [entryFrame, mkF, argsToLocals, Value.category]; done) | rfl) ?_
  intro E (C : Cx E Z "com/example/joinweave/joinweave/graph/UnionFind" "undo" prog_165_method_4_code 2 none)
  unfold undoF at hr
  by_cases c0 : 0 < u.2.2.2
  · rw [if_pos c0] at hr
    cases hh : u.2.2.1[u.2.2.2 - 1]? with
    | none => rw [hh] at hr; cases hr
    | some r =>
      rw [hh] at hr
      dsimp only at hr
      cases hp : u.1[r]? with
      | none => rw [hp] at hr; cases hr
      | some p =>
        rw [hp] at hr
        dsimp only at hr
        cases hzp : u.2.1[p]? with
        | none => rw [hzp] at hr; cases hr
        | some zp =>
          rw [hzp] at hr
          dsimp only at hr
          cases hzr : u.2.1[r]? with
          | none => rw [hzr] at hr; cases hr
          | some zr =>
            rw [hzr] at hr
            dsimp only at hr
            by_cases c1 : zr ≤ zp ∧ zp < 100 ∧ u.2.2.2 < 100
            · rw [if_pos c1] at hr
              cases hr
              refine go_aloadN C (pc' := 1) d8_0 rfl rfl rfl ?_
              refine go_getF C (pc' := 4) (own_w hw (i := 41) rfl) hU.2.2.2.1 d8_1 rfl ?_
              refine go_aloadN C (pc' := 5) d8_4 rfl rfl rfl ?_
              refine go_dup C (pc' := 6) d8_5 rfl rfl ?_
              refine go_getF C (pc' := 9) (own_w hw (i := 56) rfl) hU.2.2.2.2.1 d8_6 rfl ?_
              refine go_iconst C (pc' := 10) (z := 1) d8_9 rfl rfl ?_
              refine go_isub C (pc' := 11) d8_10 rfl ?_
              rw [show Int32.ofNat u.2.2.2 - (1 : Int32) = Int32.ofNat (u.2.2.2 - 1) from i_sub (b := 1) c0]
              refine go_dupX1 C (pc' := 12) d8_11 rfl rfl rfl ?_
              refine go_putF C (pc' := 15) (ty := .int) (own_w hw (i := 56) rfl) hU.2.2.2.2.1 hU.1 (Or.inl (own_w hw (i := 57) rfl)) (own_w hw (i := 27) rfl) (by decide) rfl rfl ge.1 d8_12 rfl ?_
              intro h1 W1
              have U1 := hU.wN hw W1
              have K1 := (Keep.refl h0 [a, pa, sa, ha]).wr W1 (Or.inl (List.mem_of_getElem? (i := 0) rfl))
              refine go_nload C (pc' := 16) U1.2.2.2.2.2.2.2.1 hh d8_15 rfl ?_
              refine go_istoreN C (pc' := 17) (Ls' := #[.val (.ref a), .val (.int (Int32.ofNat r))]) d8_16 rfl rfl ?_
              refine go_aloadN C (pc' := 18) d8_17 rfl rfl rfl ?_
              refine go_getF C (pc' := 21) (own_w hw (i := 35) rfl) U1.2.2.1 d8_18 rfl ?_
              refine go_aloadN C (pc' := 22) d8_21 rfl rfl rfl ?_
              refine go_getF C (pc' := 25) (own_w hw (i := 33) rfl) U1.2.1 d8_22 rfl ?_
              refine go_iloadN C (pc' := 26) d8_25 rfl rfl ?_
              refine go_nload C (pc' := 27) U1.2.2.2.2.2.1 hp d8_26 rfl ?_
              refine go_dup2 C (pc' := 28) d8_27 rfl rfl rfl ?_
              refine go_nload C (pc' := 29) U1.2.2.2.2.2.2.1 hzp d8_28 rfl ?_
              refine go_aloadN C (pc' := 30) d8_29 rfl rfl rfl ?_
              refine go_getF C (pc' := 33) (own_w hw (i := 35) rfl) U1.2.2.1 d8_30 rfl ?_
              refine go_iloadN C (pc' := 34) d8_33 rfl rfl ?_
              refine go_nload C (pc' := 35) U1.2.2.2.2.2.2.1 hzr d8_34 rfl ?_
              refine go_isub C (pc' := 36) d8_35 rfl ?_
              rw [i_sub c1.1]
              refine go_nstore C (pc' := 37) U1.2.2.2.2.2.2.1 (List.getElem?_eq_some_iff.mp hzp).1 ge.2.2.1 d8_36 rfl ?_
              intro h2 W2
              have U2 := U1.wS W2
              have K2 := K1.wr W2 (Or.inl (List.mem_of_getElem? (i := 2) rfl))
              refine go_aloadN C (pc' := 38) d8_37 rfl rfl rfl ?_
              refine go_getF C (pc' := 41) (own_w hw (i := 33) rfl) U2.2.1 d8_38 rfl ?_
              refine go_iloadN C (pc' := 42) d8_41 rfl rfl ?_
              refine go_iloadN C (pc' := 43) d8_42 rfl rfl ?_
              refine go_nstore C (pc' := 44) U2.2.2.2.2.2.1 (List.getElem?_eq_some_iff.mp hp).1 ge.2.1 d8_43 rfl ?_
              intro h3 W3
              have U3 := U2.wP W3
              have K3 := K2.wr W3 (Or.inl (List.mem_of_getElem? (i := 1) rfl))
              refine go_retV C d8_44 (by decide) (by decide) ?_
              exact ⟨rfl, K3, U3⟩
            · rw [if_neg c1] at hr; cases hr
  · rw [if_neg c0] at hr; cases hr
set_option maxRecDepth 65536 in
set_option maxHeartbeats 4000000 in
theorem rmMax (Z : State) (h0 : Heap) (n0 : Nat) : Met Z (⟨"java/lang/Math", "max", "(II)I"⟩ : MethodName) jdk_29_method_65_code 2 (some .int) R0 #[.int 0, .int 2] h0 n0 (Qi 2 h0) := by
  refine met_of (Ls := #[.val (.int (0 : Int32)), .val (.int (2 : Int32))]) pn3 (fun m => by first | (simp [entryFrame, mkF, argsToLocals, Value.category]; done) | rfl) ?_
  intro E (C : Cx E Z "java/lang/Math" "max" jdk_29_method_65_code 2 (some .int))
  refine go_iloadN C (pc' := 1) d5_0 rfl rfl ?_
  refine go_iloadN C (pc' := 2) d5_1 rfl rfl ?_
  refine go_icY C (pc' := 9) d5_2 (by decide) (by decide) (by decide) ?_
  refine go_iloadN C (pc' := 10) d5_9 rfl rfl ?_
  refine go_retI C d5_10 (by decide) (by decide) ?_
  exact ⟨rfl, rfl⟩
def initF : UFS := ([0, 1, 2], [1, 1, 1], [0, 0], 0)
def QI (Z : State) (n0 : Nat) (h0 : Heap) (a : Nat) (v : Option Value) (h : Heap) : Prop := v = none ∧ ∃ pa sa ha : Nat, (h0.size ≤ pa ∧ pa < sa ∧ sa < ha) ∧ Keep h0 h [a] ∧ Uf Z h a pa sa ha initF
set_option maxRecDepth 65536 in
set_option maxHeartbeats 4000000 in
theorem rmInit (Z : State) (a0 : Array Value) (hw : ∀ d ∈ tables_1, d.before a0 Z = true) (a : Nat) (h0 : Heap) (n0 : Nat) (hn0 : n0 ≤ h0.size) (ga : n0 ≤ a) (X0 : Exa Z h0 a "com/example/joinweave/joinweave/graph/UnionFind") (Fparent0 : Fld Z h0 a "com/example/joinweave/joinweave/graph/UnionFind" "parent" "[I" .null) (Fsize0 : Fld Z h0 a "com/example/joinweave/joinweave/graph/UnionFind" "size" "[I" .null) (Fhung0 : Fld Z h0 a "com/example/joinweave/joinweave/graph/UnionFind" "hung" "[I" .null) (Funions0 : Fld Z h0 a "com/example/joinweave/joinweave/graph/UnionFind" "unions" "I" (.int 0)) : Met Z (⟨"com/example/joinweave/joinweave/graph/UnionFind", "<init>", "(I)V"⟩ : MethodName) prog_165_method_1_code 3 none RI #[.ref a, .int 3] h0 n0 (QI Z n0 h0 a) := by
  refine met_of (Ls := #[.val (.ref a), .val (.int (3 : Int32)), .unset]) (plainFor_of_name pn2) (fun m => by first | (simp [entryFrame, mkF, argsToLocals, Value.category]; done) | rfl) ?_
  intro E (C : Cx E Z "com/example/joinweave/joinweave/graph/UnionFind" "<init>" prog_165_method_1_code 3 none)
  have K0 := Keep.refl h0 [a]
  have alt := exa_lt X0
  refine go_aloadN C (pc' := 1) d4_0 rfl rfl rfl ?_
  refine go_initO C (pc' := 4) (own_w hw (i := 32) rfl) (own_w hw (i := 12) rfl) (own_w hw (i := 13) rfl) d4_1 rfl (by decide) 0 rfl (by decide) rfl ?_
  refine go_aloadN C (pc' := 5) d4_4 rfl rfl rfl ?_
  refine go_iloadN C (pc' := 6) d4_5 rfl rfl ?_
  refine go_nnew C (aty := .int) (z := 3) (pc' := 8) (k' := 1) (n' := 3) (own_w hw (i := 0) rfl) rfl (by decide) d4_6 rfl rfl (by decide) (by decide) rfl ?_
  intro h1 x1 B1
  obtain ⟨pa, epa⟩ : ∃ q, q = h0.size := ⟨_, rfl⟩
  rw [← epa] at B1 ⊢
  have s1 := x1.1
  have t1 := Ai.lt B1
  have K1 := K0.ext x1
  have X1 := X0.ext x1
  have Fparent1 := Fparent0.ext x1
  have Fsize1 := Fsize0.ext x1
  have Fhung1 := Fhung0.ext x1
  have Funions1 := Funions0.ext x1
  have Apa := B1
  refine go_putF C (pc' := 11) (ty := .array .int) (own_w hw (i := 33) rfl) Fparent1 X1 (Or.inr ⟨(own_w hw (i := 34) rfl), rfl, rfl⟩) (own_w hw (i := 27) rfl) (by decide) rfl rfl ga d4_8 rfl ?_
  intro h2 W2
  have s2 := W2.size
  have K2 := K1.wr W2 (Or.inl (List.mem_singleton.mpr rfl))
  have X2 := X1.wr W2
  have Fparent2 := Fparent1.same W2
  have Fsize2 := Fsize1.other W2 (Or.inr (slot_ne (Or.inr (own_w hw (i := 36) rfl)) (Or.inr (own_w hw (i := 34) rfl)) (by decide) (t := (.array .int)) (t' := (.array .int)) (by decide) (by decide)))
  have Fhung2 := Fhung1.other W2 (Or.inr (slot_ne (Or.inr (own_w hw (i := 42) rfl)) (Or.inr (own_w hw (i := 34) rfl)) (by decide) (t := (.array .int)) (t' := (.array .int)) (by decide) (by decide)))
  have Funions2 := Funions1.other W2 (Or.inr (slot_ne (Or.inl (own_w hw (i := 57) rfl)) (Or.inr (own_w hw (i := 34) rfl)) (by decide) (t := .int) (t' := (.array .int)) (by decide) (by decide)))
  replace Apa := Ai.other Apa W2 (by omega)
  refine go_aloadN C (pc' := 12) d4_11 rfl rfl rfl ?_
  refine go_iloadN C (pc' := 13) d4_12 rfl rfl ?_
  refine go_nnew C (aty := .int) (z := 3) (pc' := 15) (k' := 2) (n' := 6) (own_w hw (i := 0) rfl) rfl (by decide) d4_13 rfl rfl (by decide) (by decide) rfl ?_
  intro h3 x3 B3
  obtain ⟨sa, esa⟩ : ∃ q, q = h2.size := ⟨_, rfl⟩
  rw [← esa] at B3 ⊢
  have s3 := x3.1
  have t3 := Ai.lt B3
  have K3 := K2.ext x3
  have X3 := X2.ext x3
  have Fparent3 := Fparent2.ext x3
  have Fsize3 := Fsize2.ext x3
  have Fhung3 := Fhung2.ext x3
  have Funions3 := Funions2.ext x3
  replace Apa := Ai.ext Apa x3
  have Asa := B3
  refine go_putF C (pc' := 18) (ty := .array .int) (own_w hw (i := 35) rfl) Fsize3 X3 (Or.inr ⟨(own_w hw (i := 36) rfl), rfl, rfl⟩) (own_w hw (i := 27) rfl) (by decide) rfl rfl ga d4_15 rfl ?_
  intro h4 W4
  have s4 := W4.size
  have K4 := K3.wr W4 (Or.inl (List.mem_singleton.mpr rfl))
  have X4 := X3.wr W4
  have Fparent4 := Fparent3.other W4 (Or.inr (slot_ne (Or.inr (own_w hw (i := 34) rfl)) (Or.inr (own_w hw (i := 36) rfl)) (by decide) (t := (.array .int)) (t' := (.array .int)) (by decide) (by decide)))
  have Fsize4 := Fsize3.same W4
  have Fhung4 := Fhung3.other W4 (Or.inr (slot_ne (Or.inr (own_w hw (i := 42) rfl)) (Or.inr (own_w hw (i := 36) rfl)) (by decide) (t := (.array .int)) (t' := (.array .int)) (by decide) (by decide)))
  have Funions4 := Funions3.other W4 (Or.inr (slot_ne (Or.inl (own_w hw (i := 57) rfl)) (Or.inr (own_w hw (i := 36) rfl)) (by decide) (t := .int) (t' := (.array .int)) (by decide) (by decide)))
  replace Apa := Ai.other Apa W4 (by omega)
  replace Asa := Ai.other Asa W4 (by omega)
  refine go_aloadN C (pc' := 19) d4_18 rfl rfl rfl ?_
  refine go_iconst C (pc' := 20) (z := 0) d4_19 rfl rfl ?_
  refine go_iloadN C (pc' := 21) d4_20 rfl rfl ?_
  refine go_iconst C (pc' := 22) (z := 1) d4_21 rfl rfl ?_
  refine go_isub C (pc' := 23) d4_22 rfl ?_
  show Go E RI n0 (QI Z n0 h0 a) h4 2 6 23 #[.val (.ref a), .val (.int (3 : Int32)), .unset] [(.int (2 : Int32)), (.int (0 : Int32)), (.ref a)]
  refine go_callS C (pc' := 26) (k' := 2) (n' := 6) (argsL := [(.int (0 : Int32)), (.int (2 : Int32))]) (rest := [(.ref a)]) (own_w hw (i := 37) rfl) (own_w hw (i := 38) rfl) (own_w hw (i := 39) rfl) (own_w hw (i := 40) rfl) (rmMax Z _ n0) d4_23 rfl rfl (lenOf pd4 rfl) (by decide) (by decide) 1 rfl (by decide) rfl rfl (by decide) (by decide) rfl ?_
  rintro _ _ ⟨rfl, rfl⟩
  show Go E RI n0 (QI Z n0 h0 a) h4 2 6 26 #[.val (.ref a), .val (.int (3 : Int32)), .unset] [(.int (Int32.ofNat 2)), (.ref a)]
  refine go_nnew C (aty := .int) (z := 2) (pc' := 28) (k' := 3) (n' := 8) (own_w hw (i := 0) rfl) rfl (by decide) d4_26 rfl rfl (by decide) (by decide) rfl ?_
  intro h5 x5 B5
  obtain ⟨ha, eha⟩ : ∃ q, q = h4.size := ⟨_, rfl⟩
  rw [← eha] at B5 ⊢
  have s5 := x5.1
  have t5 := Ai.lt B5
  have K5 := K4.ext x5
  have X5 := X4.ext x5
  have Fparent5 := Fparent4.ext x5
  have Fsize5 := Fsize4.ext x5
  have Fhung5 := Fhung4.ext x5
  have Funions5 := Funions4.ext x5
  replace Apa := Ai.ext Apa x5
  replace Asa := Ai.ext Asa x5
  have Aha := B5
  refine go_putF C (pc' := 31) (ty := .array .int) (own_w hw (i := 41) rfl) Fhung5 X5 (Or.inr ⟨(own_w hw (i := 42) rfl), rfl, rfl⟩) (own_w hw (i := 27) rfl) (by decide) rfl rfl ga d4_28 rfl ?_
  intro h6 W6
  have s6 := W6.size
  have K6 := K5.wr W6 (Or.inl (List.mem_singleton.mpr rfl))
  have X6 := X5.wr W6
  have Fparent6 := Fparent5.other W6 (Or.inr (slot_ne (Or.inr (own_w hw (i := 34) rfl)) (Or.inr (own_w hw (i := 42) rfl)) (by decide) (t := (.array .int)) (t' := (.array .int)) (by decide) (by decide)))
  have Fsize6 := Fsize5.other W6 (Or.inr (slot_ne (Or.inr (own_w hw (i := 36) rfl)) (Or.inr (own_w hw (i := 42) rfl)) (by decide) (t := (.array .int)) (t' := (.array .int)) (by decide) (by decide)))
  have Fhung6 := Fhung5.same W6
  have Funions6 := Funions5.other W6 (Or.inr (slot_ne (Or.inl (own_w hw (i := 57) rfl)) (Or.inr (own_w hw (i := 42) rfl)) (by decide) (t := .int) (t' := (.array .int)) (by decide) (by decide)))
  replace Apa := Ai.other Apa W6 (by omega)
  replace Asa := Ai.other Asa W6 (by omega)
  replace Aha := Ai.other Aha W6 (by omega)
  refine go_iconst C (pc' := 32) (z := 0) d4_31 rfl rfl ?_
  refine go_istoreN C (pc' := 33) (Ls' := #[.val (.ref a), .val (.int (3 : Int32)), .val (.int (0 : Int32))]) d4_32 rfl rfl ?_
  refine go_iloadN C (pc' := 34) d4_33 rfl rfl ?_
  refine go_iloadN C (pc' := 35) d4_34 rfl rfl ?_
  have U0 : Uf Z h6 a pa sa ha ([0, 0, 0], [0, 0, 0], [0, 0], 0) := ⟨X6, Fparent6, Fsize6, Fhung6, Funions6, Apa, Asa, Aha, by omega, by omega, by omega, by omega, by omega, by omega⟩
  refine go_icN C (pc' := 38) d4_35 (by decide) rfl ?_
  refine go_aloadN C (pc' := 39) d4_38 rfl rfl rfl ?_
  refine go_getF C (pc' := 42) (own_w hw (i := 33) rfl) U0.2.1 d4_39 rfl ?_
  refine go_iloadN C (pc' := 43) d4_42 rfl rfl ?_
  refine go_iloadN C (pc' := 44) d4_43 rfl rfl ?_
  refine go_nstore C (i := 0) (v := 0) (pc' := 45) U0.2.2.2.2.2.1 (by decide) (by omega) d4_44 rfl ?_
  intro h7 W7
  have U7 := U0.wP W7
  have K7 := keep_wr K6 W7 (by omega)
  refine go_aloadN C (pc' := 46) d4_45 rfl rfl rfl ?_
  refine go_getF C (pc' := 49) (own_w hw (i := 35) rfl) U7.2.2.1 d4_46 rfl ?_
  refine go_iloadN C (pc' := 50) d4_49 rfl rfl ?_
  refine go_iconst C (pc' := 51) (z := 1) d4_50 rfl rfl ?_
  refine go_nstore C (i := 0) (v := 1) (pc' := 52) U7.2.2.2.2.2.2.1 (by decide) (by omega) d4_51 rfl ?_
  intro h8 W8
  have U8 := U7.wS W8
  have K8 := keep_wr K7 W8 (by omega)
  refine go_iinc C (pc' := 55) (z := 1) (Ls' := #[.val (.ref a), .val (.int (3 : Int32)), .val (.int (1 : Int32))]) d4_52 rfl rfl rfl rfl ?_
  refine go_goto C (pc' := 33) d4_55 (by decide) (by decide) ?_
  refine go_iloadN C (pc' := 34) d4_33 rfl rfl ?_
  refine go_iloadN C (pc' := 35) d4_34 rfl rfl ?_
  refine go_icN C (pc' := 38) d4_35 (by decide) rfl ?_
  refine go_aloadN C (pc' := 39) d4_38 rfl rfl rfl ?_
  refine go_getF C (pc' := 42) (own_w hw (i := 33) rfl) U8.2.1 d4_39 rfl ?_
  refine go_iloadN C (pc' := 43) d4_42 rfl rfl ?_
  refine go_iloadN C (pc' := 44) d4_43 rfl rfl ?_
  refine go_nstore C (i := 1) (v := 1) (pc' := 45) U8.2.2.2.2.2.1 (by decide) (by omega) d4_44 rfl ?_
  intro h9 W9
  have U9 := U8.wP W9
  have K9 := keep_wr K8 W9 (by omega)
  refine go_aloadN C (pc' := 46) d4_45 rfl rfl rfl ?_
  refine go_getF C (pc' := 49) (own_w hw (i := 35) rfl) U9.2.2.1 d4_46 rfl ?_
  refine go_iloadN C (pc' := 50) d4_49 rfl rfl ?_
  refine go_iconst C (pc' := 51) (z := 1) d4_50 rfl rfl ?_
  refine go_nstore C (i := 1) (v := 1) (pc' := 52) U9.2.2.2.2.2.2.1 (by decide) (by omega) d4_51 rfl ?_
  intro h10 W10
  have U10 := U9.wS W10
  have K10 := keep_wr K9 W10 (by omega)
  refine go_iinc C (pc' := 55) (z := 1) (Ls' := #[.val (.ref a), .val (.int (3 : Int32)), .val (.int (2 : Int32))]) d4_52 rfl rfl rfl rfl ?_
  refine go_goto C (pc' := 33) d4_55 (by decide) (by decide) ?_
  refine go_iloadN C (pc' := 34) d4_33 rfl rfl ?_
  refine go_iloadN C (pc' := 35) d4_34 rfl rfl ?_
  refine go_icN C (pc' := 38) d4_35 (by decide) rfl ?_
  refine go_aloadN C (pc' := 39) d4_38 rfl rfl rfl ?_
  refine go_getF C (pc' := 42) (own_w hw (i := 33) rfl) U10.2.1 d4_39 rfl ?_
  refine go_iloadN C (pc' := 43) d4_42 rfl rfl ?_
  refine go_iloadN C (pc' := 44) d4_43 rfl rfl ?_
  refine go_nstore C (i := 2) (v := 2) (pc' := 45) U10.2.2.2.2.2.1 (by decide) (by omega) d4_44 rfl ?_
  intro h11 W11
  have U11 := U10.wP W11
  have K11 := keep_wr K10 W11 (by omega)
  refine go_aloadN C (pc' := 46) d4_45 rfl rfl rfl ?_
  refine go_getF C (pc' := 49) (own_w hw (i := 35) rfl) U11.2.2.1 d4_46 rfl ?_
  refine go_iloadN C (pc' := 50) d4_49 rfl rfl ?_
  refine go_iconst C (pc' := 51) (z := 1) d4_50 rfl rfl ?_
  refine go_nstore C (i := 2) (v := 1) (pc' := 52) U11.2.2.2.2.2.2.1 (by decide) (by omega) d4_51 rfl ?_
  intro h12 W12
  have U12 := U11.wS W12
  have K12 := keep_wr K11 W12 (by omega)
  refine go_iinc C (pc' := 55) (z := 1) (Ls' := #[.val (.ref a), .val (.int (3 : Int32)), .val (.int (3 : Int32))]) d4_52 rfl rfl rfl rfl ?_
  refine go_goto C (pc' := 33) d4_55 (by decide) (by decide) ?_
  refine go_iloadN C (pc' := 34) d4_33 rfl rfl ?_
  refine go_iloadN C (pc' := 35) d4_34 rfl rfl ?_
  refine go_icY C (pc' := 58) d4_35 (by decide) (by decide) (by decide) ?_
  refine go_retV C d4_58 (by decide) (by decide) ?_
  exact ⟨rfl, pa, sa, ha, ⟨by omega, by omega, by omega⟩, K12, U12⟩
def CF (Z : State) (h : Heap) (c : Nat) (v0 v1 v2 v3 v4 v5 v6 v7 v8 v9 v10 : Value) : Prop := Exa Z h c "com/example/joinweave/joinweave/graph/CoreTrees" ∧ Fld Z h c "com/example/joinweave/joinweave/graph/CoreTrees" "vertices" "I" v0 ∧ Fld Z h c "com/example/joinweave/joinweave/graph/CoreTrees" "a" "[I" v1 ∧ Fld Z h c "com/example/joinweave/joinweave/graph/CoreTrees" "b" "[I" v2 ∧ Fld Z h c "com/example/joinweave/joinweave/graph/CoreTrees" "edge" "[I" v3 ∧ Fld Z h c "com/example/joinweave/joinweave/graph/CoreTrees" "positionOf" "[I" v4 ∧ Fld Z h c "com/example/joinweave/joinweave/graph/CoreTrees" "lastTreeStart" "I" v5 ∧ Fld Z h c "com/example/joinweave/joinweave/graph/CoreTrees" "forest" "Lcom/example/joinweave/joinweave/graph/UnionFind;" v6 ∧ Fld Z h c "com/example/joinweave/joinweave/graph/CoreTrees" "choice" "[B" v7 ∧ Fld Z h c "com/example/joinweave/joinweave/graph/CoreTrees" "decided" "I" v8 ∧ Fld Z h c "com/example/joinweave/joinweave/graph/CoreTrees" "taken" "[I" v9 ∧ Fld Z h c "com/example/joinweave/joinweave/graph/CoreTrees" "takenCount" "I" v10
theorem CF.ext {Z : State} {h h' : Heap} {c : Nat} {v0 v1 v2 v3 v4 v5 v6 v7 v8 v9 v10 : Value} (F : CF Z h c v0 v1 v2 v3 v4 v5 v6 v7 v8 v9 v10) (x : Ext h h') : CF Z h' c v0 v1 v2 v3 v4 v5 v6 v7 v8 v9 v10 := ⟨F.1.ext x, F.2.1.ext x, F.2.2.1.ext x, F.2.2.2.1.ext x, F.2.2.2.2.1.ext x, F.2.2.2.2.2.1.ext x, F.2.2.2.2.2.2.1.ext x, F.2.2.2.2.2.2.2.1.ext x, F.2.2.2.2.2.2.2.2.1.ext x, F.2.2.2.2.2.2.2.2.2.1.ext x, F.2.2.2.2.2.2.2.2.2.2.1.ext x, F.2.2.2.2.2.2.2.2.2.2.2.ext x⟩
theorem CF.keep {Z : State} {h h' : Heap} {c : Nat} {ws : List Nat} {v0 v1 v2 v3 v4 v5 v6 v7 v8 v9 v10 : Value} (F : CF Z h c v0 v1 v2 v3 v4 v5 v6 v7 v8 v9 v10) (K : Keep h h' ws) (q : c ∉ ws) : CF Z h' c v0 v1 v2 v3 v4 v5 v6 v7 v8 v9 v10 := ⟨F.1.keep K, F.2.1.keep K q, F.2.2.1.keep K q, F.2.2.2.1.keep K q, F.2.2.2.2.1.keep K q, F.2.2.2.2.2.1.keep K q, F.2.2.2.2.2.2.1.keep K q, F.2.2.2.2.2.2.2.1.keep K q, F.2.2.2.2.2.2.2.2.1.keep K q, F.2.2.2.2.2.2.2.2.2.1.keep K q, F.2.2.2.2.2.2.2.2.2.2.1.keep K q, F.2.2.2.2.2.2.2.2.2.2.2.keep K q⟩
theorem CF.other {Z : State} {h h' : Heap} {c b : Nat} {sl : Nat} {w : Value} {v0 v1 v2 v3 v4 v5 v6 v7 v8 v9 v10 : Value} (F : CF Z h c v0 v1 v2 v3 v4 v5 v6 v7 v8 v9 v10) (W : Wr h h' b sl w) (q : c ≠ b) : CF Z h' c v0 v1 v2 v3 v4 v5 v6 v7 v8 v9 v10 := F.keep (Keep.of_wr W) (ninS q nin0)
theorem CF.w_vertices {Z : State} {a0 : Array Value} (hw : ∀ d ∈ tables_1, d.before a0 Z = true) {h h' : Heap} {c : Nat} {w : Value} {v0 v1 v2 v3 v4 v5 v6 v7 v8 v9 v10 : Value} (F : CF Z h c v0 v1 v2 v3 v4 v5 v6 v7 v8 v9 v10) (W : Wr h h' c (Jvm.RoadKit.slotOf Z "com/example/joinweave/joinweave/graph/CoreTrees" "vertices" "I") w) : CF Z h' c w v1 v2 v3 v4 v5 v6 v7 v8 v9 v10 := ⟨F.1.wr W, F.2.1.same W, F.2.2.1.other W (Or.inr (slot_ne (Or.inr (own_w hw (i := 19) rfl)) (Or.inr (own_w hw (i := 17) rfl)) (by decide) (t := (.array .int)) (t' := .int) (by decide) (by decide))), F.2.2.2.1.other W (Or.inr (slot_ne (Or.inr (own_w hw (i := 21) rfl)) (Or.inr (own_w hw (i := 17) rfl)) (by decide) (t := (.array .int)) (t' := .int) (by decide) (by decide))), F.2.2.2.2.1.other W (Or.inr (slot_ne (Or.inr (own_w hw (i := 23) rfl)) (Or.inr (own_w hw (i := 17) rfl)) (by decide) (t := (.array .int)) (t' := .int) (by decide) (by decide))), F.2.2.2.2.2.1.other W (Or.inr (slot_ne (Or.inr (own_w hw (i := 25) rfl)) (Or.inr (own_w hw (i := 17) rfl)) (by decide) (t := (.array .int)) (t' := .int) (by decide) (by decide))), F.2.2.2.2.2.2.1.other W (Or.inr (slot_ne (Or.inr (own_w hw (i := 64) rfl)) (Or.inr (own_w hw (i := 17) rfl)) (by decide) (t := .int) (t' := .int) (by decide) (by decide))), F.2.2.2.2.2.2.2.1.other W (Or.inr (slot_ne (Or.inr (own_w hw (i := 44) rfl)) (Or.inr (own_w hw (i := 17) rfl)) (by decide) (t := (.object "com/example/joinweave/joinweave/graph/UnionFind")) (t' := .int) (by decide) (by decide))), F.2.2.2.2.2.2.2.2.1.other W (Or.inr (slot_ne (Or.inr (own_w hw (i := 67) rfl)) (Or.inr (own_w hw (i := 17) rfl)) (by decide) (t := (.array .byte)) (t' := .int) (by decide) (by decide))), F.2.2.2.2.2.2.2.2.2.1.other W (Or.inr (slot_ne (Or.inl (own_w hw (i := 15) rfl)) (Or.inr (own_w hw (i := 17) rfl)) (by decide) (t := .int) (t' := .int) (by decide) (by decide))), F.2.2.2.2.2.2.2.2.2.2.1.other W (Or.inr (slot_ne (Or.inr (own_w hw (i := 69) rfl)) (Or.inr (own_w hw (i := 17) rfl)) (by decide) (t := (.array .int)) (t' := .int) (by decide) (by decide))), F.2.2.2.2.2.2.2.2.2.2.2.other W (Or.inr (slot_ne (Or.inl (own_w hw (i := 76) rfl)) (Or.inr (own_w hw (i := 17) rfl)) (by decide) (t := .int) (t' := .int) (by decide) (by decide)))⟩
theorem CF.w_a {Z : State} {a0 : Array Value} (hw : ∀ d ∈ tables_1, d.before a0 Z = true) {h h' : Heap} {c : Nat} {w : Value} {v0 v1 v2 v3 v4 v5 v6 v7 v8 v9 v10 : Value} (F : CF Z h c v0 v1 v2 v3 v4 v5 v6 v7 v8 v9 v10) (W : Wr h h' c (Jvm.RoadKit.slotOf Z "com/example/joinweave/joinweave/graph/CoreTrees" "a" "[I") w) : CF Z h' c v0 w v2 v3 v4 v5 v6 v7 v8 v9 v10 := ⟨F.1.wr W, F.2.1.other W (Or.inr (slot_ne (Or.inr (own_w hw (i := 17) rfl)) (Or.inr (own_w hw (i := 19) rfl)) (by decide) (t := .int) (t' := (.array .int)) (by decide) (by decide))), F.2.2.1.same W, F.2.2.2.1.other W (Or.inr (slot_ne (Or.inr (own_w hw (i := 21) rfl)) (Or.inr (own_w hw (i := 19) rfl)) (by decide) (t := (.array .int)) (t' := (.array .int)) (by decide) (by decide))), F.2.2.2.2.1.other W (Or.inr (slot_ne (Or.inr (own_w hw (i := 23) rfl)) (Or.inr (own_w hw (i := 19) rfl)) (by decide) (t := (.array .int)) (t' := (.array .int)) (by decide) (by decide))), F.2.2.2.2.2.1.other W (Or.inr (slot_ne (Or.inr (own_w hw (i := 25) rfl)) (Or.inr (own_w hw (i := 19) rfl)) (by decide) (t := (.array .int)) (t' := (.array .int)) (by decide) (by decide))), F.2.2.2.2.2.2.1.other W (Or.inr (slot_ne (Or.inr (own_w hw (i := 64) rfl)) (Or.inr (own_w hw (i := 19) rfl)) (by decide) (t := .int) (t' := (.array .int)) (by decide) (by decide))), F.2.2.2.2.2.2.2.1.other W (Or.inr (slot_ne (Or.inr (own_w hw (i := 44) rfl)) (Or.inr (own_w hw (i := 19) rfl)) (by decide) (t := (.object "com/example/joinweave/joinweave/graph/UnionFind")) (t' := (.array .int)) (by decide) (by decide))), F.2.2.2.2.2.2.2.2.1.other W (Or.inr (slot_ne (Or.inr (own_w hw (i := 67) rfl)) (Or.inr (own_w hw (i := 19) rfl)) (by decide) (t := (.array .byte)) (t' := (.array .int)) (by decide) (by decide))), F.2.2.2.2.2.2.2.2.2.1.other W (Or.inr (slot_ne (Or.inl (own_w hw (i := 15) rfl)) (Or.inr (own_w hw (i := 19) rfl)) (by decide) (t := .int) (t' := (.array .int)) (by decide) (by decide))), F.2.2.2.2.2.2.2.2.2.2.1.other W (Or.inr (slot_ne (Or.inr (own_w hw (i := 69) rfl)) (Or.inr (own_w hw (i := 19) rfl)) (by decide) (t := (.array .int)) (t' := (.array .int)) (by decide) (by decide))), F.2.2.2.2.2.2.2.2.2.2.2.other W (Or.inr (slot_ne (Or.inl (own_w hw (i := 76) rfl)) (Or.inr (own_w hw (i := 19) rfl)) (by decide) (t := .int) (t' := (.array .int)) (by decide) (by decide)))⟩
theorem CF.w_b {Z : State} {a0 : Array Value} (hw : ∀ d ∈ tables_1, d.before a0 Z = true) {h h' : Heap} {c : Nat} {w : Value} {v0 v1 v2 v3 v4 v5 v6 v7 v8 v9 v10 : Value} (F : CF Z h c v0 v1 v2 v3 v4 v5 v6 v7 v8 v9 v10) (W : Wr h h' c (Jvm.RoadKit.slotOf Z "com/example/joinweave/joinweave/graph/CoreTrees" "b" "[I") w) : CF Z h' c v0 v1 w v3 v4 v5 v6 v7 v8 v9 v10 := ⟨F.1.wr W, F.2.1.other W (Or.inr (slot_ne (Or.inr (own_w hw (i := 17) rfl)) (Or.inr (own_w hw (i := 21) rfl)) (by decide) (t := .int) (t' := (.array .int)) (by decide) (by decide))), F.2.2.1.other W (Or.inr (slot_ne (Or.inr (own_w hw (i := 19) rfl)) (Or.inr (own_w hw (i := 21) rfl)) (by decide) (t := (.array .int)) (t' := (.array .int)) (by decide) (by decide))), F.2.2.2.1.same W, F.2.2.2.2.1.other W (Or.inr (slot_ne (Or.inr (own_w hw (i := 23) rfl)) (Or.inr (own_w hw (i := 21) rfl)) (by decide) (t := (.array .int)) (t' := (.array .int)) (by decide) (by decide))), F.2.2.2.2.2.1.other W (Or.inr (slot_ne (Or.inr (own_w hw (i := 25) rfl)) (Or.inr (own_w hw (i := 21) rfl)) (by decide) (t := (.array .int)) (t' := (.array .int)) (by decide) (by decide))), F.2.2.2.2.2.2.1.other W (Or.inr (slot_ne (Or.inr (own_w hw (i := 64) rfl)) (Or.inr (own_w hw (i := 21) rfl)) (by decide) (t := .int) (t' := (.array .int)) (by decide) (by decide))), F.2.2.2.2.2.2.2.1.other W (Or.inr (slot_ne (Or.inr (own_w hw (i := 44) rfl)) (Or.inr (own_w hw (i := 21) rfl)) (by decide) (t := (.object "com/example/joinweave/joinweave/graph/UnionFind")) (t' := (.array .int)) (by decide) (by decide))), F.2.2.2.2.2.2.2.2.1.other W (Or.inr (slot_ne (Or.inr (own_w hw (i := 67) rfl)) (Or.inr (own_w hw (i := 21) rfl)) (by decide) (t := (.array .byte)) (t' := (.array .int)) (by decide) (by decide))), F.2.2.2.2.2.2.2.2.2.1.other W (Or.inr (slot_ne (Or.inl (own_w hw (i := 15) rfl)) (Or.inr (own_w hw (i := 21) rfl)) (by decide) (t := .int) (t' := (.array .int)) (by decide) (by decide))), F.2.2.2.2.2.2.2.2.2.2.1.other W (Or.inr (slot_ne (Or.inr (own_w hw (i := 69) rfl)) (Or.inr (own_w hw (i := 21) rfl)) (by decide) (t := (.array .int)) (t' := (.array .int)) (by decide) (by decide))), F.2.2.2.2.2.2.2.2.2.2.2.other W (Or.inr (slot_ne (Or.inl (own_w hw (i := 76) rfl)) (Or.inr (own_w hw (i := 21) rfl)) (by decide) (t := .int) (t' := (.array .int)) (by decide) (by decide)))⟩
theorem CF.w_edge {Z : State} {a0 : Array Value} (hw : ∀ d ∈ tables_1, d.before a0 Z = true) {h h' : Heap} {c : Nat} {w : Value} {v0 v1 v2 v3 v4 v5 v6 v7 v8 v9 v10 : Value} (F : CF Z h c v0 v1 v2 v3 v4 v5 v6 v7 v8 v9 v10) (W : Wr h h' c (Jvm.RoadKit.slotOf Z "com/example/joinweave/joinweave/graph/CoreTrees" "edge" "[I") w) : CF Z h' c v0 v1 v2 w v4 v5 v6 v7 v8 v9 v10 := ⟨F.1.wr W, F.2.1.other W (Or.inr (slot_ne (Or.inr (own_w hw (i := 17) rfl)) (Or.inr (own_w hw (i := 23) rfl)) (by decide) (t := .int) (t' := (.array .int)) (by decide) (by decide))), F.2.2.1.other W (Or.inr (slot_ne (Or.inr (own_w hw (i := 19) rfl)) (Or.inr (own_w hw (i := 23) rfl)) (by decide) (t := (.array .int)) (t' := (.array .int)) (by decide) (by decide))), F.2.2.2.1.other W (Or.inr (slot_ne (Or.inr (own_w hw (i := 21) rfl)) (Or.inr (own_w hw (i := 23) rfl)) (by decide) (t := (.array .int)) (t' := (.array .int)) (by decide) (by decide))), F.2.2.2.2.1.same W, F.2.2.2.2.2.1.other W (Or.inr (slot_ne (Or.inr (own_w hw (i := 25) rfl)) (Or.inr (own_w hw (i := 23) rfl)) (by decide) (t := (.array .int)) (t' := (.array .int)) (by decide) (by decide))), F.2.2.2.2.2.2.1.other W (Or.inr (slot_ne (Or.inr (own_w hw (i := 64) rfl)) (Or.inr (own_w hw (i := 23) rfl)) (by decide) (t := .int) (t' := (.array .int)) (by decide) (by decide))), F.2.2.2.2.2.2.2.1.other W (Or.inr (slot_ne (Or.inr (own_w hw (i := 44) rfl)) (Or.inr (own_w hw (i := 23) rfl)) (by decide) (t := (.object "com/example/joinweave/joinweave/graph/UnionFind")) (t' := (.array .int)) (by decide) (by decide))), F.2.2.2.2.2.2.2.2.1.other W (Or.inr (slot_ne (Or.inr (own_w hw (i := 67) rfl)) (Or.inr (own_w hw (i := 23) rfl)) (by decide) (t := (.array .byte)) (t' := (.array .int)) (by decide) (by decide))), F.2.2.2.2.2.2.2.2.2.1.other W (Or.inr (slot_ne (Or.inl (own_w hw (i := 15) rfl)) (Or.inr (own_w hw (i := 23) rfl)) (by decide) (t := .int) (t' := (.array .int)) (by decide) (by decide))), F.2.2.2.2.2.2.2.2.2.2.1.other W (Or.inr (slot_ne (Or.inr (own_w hw (i := 69) rfl)) (Or.inr (own_w hw (i := 23) rfl)) (by decide) (t := (.array .int)) (t' := (.array .int)) (by decide) (by decide))), F.2.2.2.2.2.2.2.2.2.2.2.other W (Or.inr (slot_ne (Or.inl (own_w hw (i := 76) rfl)) (Or.inr (own_w hw (i := 23) rfl)) (by decide) (t := .int) (t' := (.array .int)) (by decide) (by decide)))⟩
theorem CF.w_positionOf {Z : State} {a0 : Array Value} (hw : ∀ d ∈ tables_1, d.before a0 Z = true) {h h' : Heap} {c : Nat} {w : Value} {v0 v1 v2 v3 v4 v5 v6 v7 v8 v9 v10 : Value} (F : CF Z h c v0 v1 v2 v3 v4 v5 v6 v7 v8 v9 v10) (W : Wr h h' c (Jvm.RoadKit.slotOf Z "com/example/joinweave/joinweave/graph/CoreTrees" "positionOf" "[I") w) : CF Z h' c v0 v1 v2 v3 w v5 v6 v7 v8 v9 v10 := ⟨F.1.wr W, F.2.1.other W (Or.inr (slot_ne (Or.inr (own_w hw (i := 17) rfl)) (Or.inr (own_w hw (i := 25) rfl)) (by decide) (t := .int) (t' := (.array .int)) (by decide) (by decide))), F.2.2.1.other W (Or.inr (slot_ne (Or.inr (own_w hw (i := 19) rfl)) (Or.inr (own_w hw (i := 25) rfl)) (by decide) (t := (.array .int)) (t' := (.array .int)) (by decide) (by decide))), F.2.2.2.1.other W (Or.inr (slot_ne (Or.inr (own_w hw (i := 21) rfl)) (Or.inr (own_w hw (i := 25) rfl)) (by decide) (t := (.array .int)) (t' := (.array .int)) (by decide) (by decide))), F.2.2.2.2.1.other W (Or.inr (slot_ne (Or.inr (own_w hw (i := 23) rfl)) (Or.inr (own_w hw (i := 25) rfl)) (by decide) (t := (.array .int)) (t' := (.array .int)) (by decide) (by decide))), F.2.2.2.2.2.1.same W, F.2.2.2.2.2.2.1.other W (Or.inr (slot_ne (Or.inr (own_w hw (i := 64) rfl)) (Or.inr (own_w hw (i := 25) rfl)) (by decide) (t := .int) (t' := (.array .int)) (by decide) (by decide))), F.2.2.2.2.2.2.2.1.other W (Or.inr (slot_ne (Or.inr (own_w hw (i := 44) rfl)) (Or.inr (own_w hw (i := 25) rfl)) (by decide) (t := (.object "com/example/joinweave/joinweave/graph/UnionFind")) (t' := (.array .int)) (by decide) (by decide))), F.2.2.2.2.2.2.2.2.1.other W (Or.inr (slot_ne (Or.inr (own_w hw (i := 67) rfl)) (Or.inr (own_w hw (i := 25) rfl)) (by decide) (t := (.array .byte)) (t' := (.array .int)) (by decide) (by decide))), F.2.2.2.2.2.2.2.2.2.1.other W (Or.inr (slot_ne (Or.inl (own_w hw (i := 15) rfl)) (Or.inr (own_w hw (i := 25) rfl)) (by decide) (t := .int) (t' := (.array .int)) (by decide) (by decide))), F.2.2.2.2.2.2.2.2.2.2.1.other W (Or.inr (slot_ne (Or.inr (own_w hw (i := 69) rfl)) (Or.inr (own_w hw (i := 25) rfl)) (by decide) (t := (.array .int)) (t' := (.array .int)) (by decide) (by decide))), F.2.2.2.2.2.2.2.2.2.2.2.other W (Or.inr (slot_ne (Or.inl (own_w hw (i := 76) rfl)) (Or.inr (own_w hw (i := 25) rfl)) (by decide) (t := .int) (t' := (.array .int)) (by decide) (by decide)))⟩
theorem CF.w_lastTreeStart {Z : State} {a0 : Array Value} (hw : ∀ d ∈ tables_1, d.before a0 Z = true) {h h' : Heap} {c : Nat} {w : Value} {v0 v1 v2 v3 v4 v5 v6 v7 v8 v9 v10 : Value} (F : CF Z h c v0 v1 v2 v3 v4 v5 v6 v7 v8 v9 v10) (W : Wr h h' c (Jvm.RoadKit.slotOf Z "com/example/joinweave/joinweave/graph/CoreTrees" "lastTreeStart" "I") w) : CF Z h' c v0 v1 v2 v3 v4 w v6 v7 v8 v9 v10 := ⟨F.1.wr W, F.2.1.other W (Or.inr (slot_ne (Or.inr (own_w hw (i := 17) rfl)) (Or.inr (own_w hw (i := 64) rfl)) (by decide) (t := .int) (t' := .int) (by decide) (by decide))), F.2.2.1.other W (Or.inr (slot_ne (Or.inr (own_w hw (i := 19) rfl)) (Or.inr (own_w hw (i := 64) rfl)) (by decide) (t := (.array .int)) (t' := .int) (by decide) (by decide))), F.2.2.2.1.other W (Or.inr (slot_ne (Or.inr (own_w hw (i := 21) rfl)) (Or.inr (own_w hw (i := 64) rfl)) (by decide) (t := (.array .int)) (t' := .int) (by decide) (by decide))), F.2.2.2.2.1.other W (Or.inr (slot_ne (Or.inr (own_w hw (i := 23) rfl)) (Or.inr (own_w hw (i := 64) rfl)) (by decide) (t := (.array .int)) (t' := .int) (by decide) (by decide))), F.2.2.2.2.2.1.other W (Or.inr (slot_ne (Or.inr (own_w hw (i := 25) rfl)) (Or.inr (own_w hw (i := 64) rfl)) (by decide) (t := (.array .int)) (t' := .int) (by decide) (by decide))), F.2.2.2.2.2.2.1.same W, F.2.2.2.2.2.2.2.1.other W (Or.inr (slot_ne (Or.inr (own_w hw (i := 44) rfl)) (Or.inr (own_w hw (i := 64) rfl)) (by decide) (t := (.object "com/example/joinweave/joinweave/graph/UnionFind")) (t' := .int) (by decide) (by decide))), F.2.2.2.2.2.2.2.2.1.other W (Or.inr (slot_ne (Or.inr (own_w hw (i := 67) rfl)) (Or.inr (own_w hw (i := 64) rfl)) (by decide) (t := (.array .byte)) (t' := .int) (by decide) (by decide))), F.2.2.2.2.2.2.2.2.2.1.other W (Or.inr (slot_ne (Or.inl (own_w hw (i := 15) rfl)) (Or.inr (own_w hw (i := 64) rfl)) (by decide) (t := .int) (t' := .int) (by decide) (by decide))), F.2.2.2.2.2.2.2.2.2.2.1.other W (Or.inr (slot_ne (Or.inr (own_w hw (i := 69) rfl)) (Or.inr (own_w hw (i := 64) rfl)) (by decide) (t := (.array .int)) (t' := .int) (by decide) (by decide))), F.2.2.2.2.2.2.2.2.2.2.2.other W (Or.inr (slot_ne (Or.inl (own_w hw (i := 76) rfl)) (Or.inr (own_w hw (i := 64) rfl)) (by decide) (t := .int) (t' := .int) (by decide) (by decide)))⟩
theorem CF.w_forest {Z : State} {a0 : Array Value} (hw : ∀ d ∈ tables_1, d.before a0 Z = true) {h h' : Heap} {c : Nat} {w : Value} {v0 v1 v2 v3 v4 v5 v6 v7 v8 v9 v10 : Value} (F : CF Z h c v0 v1 v2 v3 v4 v5 v6 v7 v8 v9 v10) (W : Wr h h' c (Jvm.RoadKit.slotOf Z "com/example/joinweave/joinweave/graph/CoreTrees" "forest" "Lcom/example/joinweave/joinweave/graph/UnionFind;") w) : CF Z h' c v0 v1 v2 v3 v4 v5 w v7 v8 v9 v10 := ⟨F.1.wr W, F.2.1.other W (Or.inr (slot_ne (Or.inr (own_w hw (i := 17) rfl)) (Or.inr (own_w hw (i := 44) rfl)) (by decide) (t := .int) (t' := (.object "com/example/joinweave/joinweave/graph/UnionFind")) (by decide) (by decide))), F.2.2.1.other W (Or.inr (slot_ne (Or.inr (own_w hw (i := 19) rfl)) (Or.inr (own_w hw (i := 44) rfl)) (by decide) (t := (.array .int)) (t' := (.object "com/example/joinweave/joinweave/graph/UnionFind")) (by decide) (by decide))), F.2.2.2.1.other W (Or.inr (slot_ne (Or.inr (own_w hw (i := 21) rfl)) (Or.inr (own_w hw (i := 44) rfl)) (by decide) (t := (.array .int)) (t' := (.object "com/example/joinweave/joinweave/graph/UnionFind")) (by decide) (by decide))), F.2.2.2.2.1.other W (Or.inr (slot_ne (Or.inr (own_w hw (i := 23) rfl)) (Or.inr (own_w hw (i := 44) rfl)) (by decide) (t := (.array .int)) (t' := (.object "com/example/joinweave/joinweave/graph/UnionFind")) (by decide) (by decide))), F.2.2.2.2.2.1.other W (Or.inr (slot_ne (Or.inr (own_w hw (i := 25) rfl)) (Or.inr (own_w hw (i := 44) rfl)) (by decide) (t := (.array .int)) (t' := (.object "com/example/joinweave/joinweave/graph/UnionFind")) (by decide) (by decide))), F.2.2.2.2.2.2.1.other W (Or.inr (slot_ne (Or.inr (own_w hw (i := 64) rfl)) (Or.inr (own_w hw (i := 44) rfl)) (by decide) (t := .int) (t' := (.object "com/example/joinweave/joinweave/graph/UnionFind")) (by decide) (by decide))), F.2.2.2.2.2.2.2.1.same W, F.2.2.2.2.2.2.2.2.1.other W (Or.inr (slot_ne (Or.inr (own_w hw (i := 67) rfl)) (Or.inr (own_w hw (i := 44) rfl)) (by decide) (t := (.array .byte)) (t' := (.object "com/example/joinweave/joinweave/graph/UnionFind")) (by decide) (by decide))), F.2.2.2.2.2.2.2.2.2.1.other W (Or.inr (slot_ne (Or.inl (own_w hw (i := 15) rfl)) (Or.inr (own_w hw (i := 44) rfl)) (by decide) (t := .int) (t' := (.object "com/example/joinweave/joinweave/graph/UnionFind")) (by decide) (by decide))), F.2.2.2.2.2.2.2.2.2.2.1.other W (Or.inr (slot_ne (Or.inr (own_w hw (i := 69) rfl)) (Or.inr (own_w hw (i := 44) rfl)) (by decide) (t := (.array .int)) (t' := (.object "com/example/joinweave/joinweave/graph/UnionFind")) (by decide) (by decide))), F.2.2.2.2.2.2.2.2.2.2.2.other W (Or.inr (slot_ne (Or.inl (own_w hw (i := 76) rfl)) (Or.inr (own_w hw (i := 44) rfl)) (by decide) (t := .int) (t' := (.object "com/example/joinweave/joinweave/graph/UnionFind")) (by decide) (by decide)))⟩
theorem CF.w_choice {Z : State} {a0 : Array Value} (hw : ∀ d ∈ tables_1, d.before a0 Z = true) {h h' : Heap} {c : Nat} {w : Value} {v0 v1 v2 v3 v4 v5 v6 v7 v8 v9 v10 : Value} (F : CF Z h c v0 v1 v2 v3 v4 v5 v6 v7 v8 v9 v10) (W : Wr h h' c (Jvm.RoadKit.slotOf Z "com/example/joinweave/joinweave/graph/CoreTrees" "choice" "[B") w) : CF Z h' c v0 v1 v2 v3 v4 v5 v6 w v8 v9 v10 := ⟨F.1.wr W, F.2.1.other W (Or.inr (slot_ne (Or.inr (own_w hw (i := 17) rfl)) (Or.inr (own_w hw (i := 67) rfl)) (by decide) (t := .int) (t' := (.array .byte)) (by decide) (by decide))), F.2.2.1.other W (Or.inr (slot_ne (Or.inr (own_w hw (i := 19) rfl)) (Or.inr (own_w hw (i := 67) rfl)) (by decide) (t := (.array .int)) (t' := (.array .byte)) (by decide) (by decide))), F.2.2.2.1.other W (Or.inr (slot_ne (Or.inr (own_w hw (i := 21) rfl)) (Or.inr (own_w hw (i := 67) rfl)) (by decide) (t := (.array .int)) (t' := (.array .byte)) (by decide) (by decide))), F.2.2.2.2.1.other W (Or.inr (slot_ne (Or.inr (own_w hw (i := 23) rfl)) (Or.inr (own_w hw (i := 67) rfl)) (by decide) (t := (.array .int)) (t' := (.array .byte)) (by decide) (by decide))), F.2.2.2.2.2.1.other W (Or.inr (slot_ne (Or.inr (own_w hw (i := 25) rfl)) (Or.inr (own_w hw (i := 67) rfl)) (by decide) (t := (.array .int)) (t' := (.array .byte)) (by decide) (by decide))), F.2.2.2.2.2.2.1.other W (Or.inr (slot_ne (Or.inr (own_w hw (i := 64) rfl)) (Or.inr (own_w hw (i := 67) rfl)) (by decide) (t := .int) (t' := (.array .byte)) (by decide) (by decide))), F.2.2.2.2.2.2.2.1.other W (Or.inr (slot_ne (Or.inr (own_w hw (i := 44) rfl)) (Or.inr (own_w hw (i := 67) rfl)) (by decide) (t := (.object "com/example/joinweave/joinweave/graph/UnionFind")) (t' := (.array .byte)) (by decide) (by decide))), F.2.2.2.2.2.2.2.2.1.same W, F.2.2.2.2.2.2.2.2.2.1.other W (Or.inr (slot_ne (Or.inl (own_w hw (i := 15) rfl)) (Or.inr (own_w hw (i := 67) rfl)) (by decide) (t := .int) (t' := (.array .byte)) (by decide) (by decide))), F.2.2.2.2.2.2.2.2.2.2.1.other W (Or.inr (slot_ne (Or.inr (own_w hw (i := 69) rfl)) (Or.inr (own_w hw (i := 67) rfl)) (by decide) (t := (.array .int)) (t' := (.array .byte)) (by decide) (by decide))), F.2.2.2.2.2.2.2.2.2.2.2.other W (Or.inr (slot_ne (Or.inl (own_w hw (i := 76) rfl)) (Or.inr (own_w hw (i := 67) rfl)) (by decide) (t := .int) (t' := (.array .byte)) (by decide) (by decide)))⟩
theorem CF.w_decided {Z : State} {a0 : Array Value} (hw : ∀ d ∈ tables_1, d.before a0 Z = true) {h h' : Heap} {c : Nat} {w : Value} {v0 v1 v2 v3 v4 v5 v6 v7 v8 v9 v10 : Value} (F : CF Z h c v0 v1 v2 v3 v4 v5 v6 v7 v8 v9 v10) (W : Wr h h' c (Jvm.RoadKit.slotOf Z "com/example/joinweave/joinweave/graph/CoreTrees" "decided" "I") w) : CF Z h' c v0 v1 v2 v3 v4 v5 v6 v7 w v9 v10 := ⟨F.1.wr W, F.2.1.other W (Or.inr (slot_ne (Or.inr (own_w hw (i := 17) rfl)) (Or.inl (own_w hw (i := 15) rfl)) (by decide) (t := .int) (t' := .int) (by decide) (by decide))), F.2.2.1.other W (Or.inr (slot_ne (Or.inr (own_w hw (i := 19) rfl)) (Or.inl (own_w hw (i := 15) rfl)) (by decide) (t := (.array .int)) (t' := .int) (by decide) (by decide))), F.2.2.2.1.other W (Or.inr (slot_ne (Or.inr (own_w hw (i := 21) rfl)) (Or.inl (own_w hw (i := 15) rfl)) (by decide) (t := (.array .int)) (t' := .int) (by decide) (by decide))), F.2.2.2.2.1.other W (Or.inr (slot_ne (Or.inr (own_w hw (i := 23) rfl)) (Or.inl (own_w hw (i := 15) rfl)) (by decide) (t := (.array .int)) (t' := .int) (by decide) (by decide))), F.2.2.2.2.2.1.other W (Or.inr (slot_ne (Or.inr (own_w hw (i := 25) rfl)) (Or.inl (own_w hw (i := 15) rfl)) (by decide) (t := (.array .int)) (t' := .int) (by decide) (by decide))), F.2.2.2.2.2.2.1.other W (Or.inr (slot_ne (Or.inr (own_w hw (i := 64) rfl)) (Or.inl (own_w hw (i := 15) rfl)) (by decide) (t := .int) (t' := .int) (by decide) (by decide))), F.2.2.2.2.2.2.2.1.other W (Or.inr (slot_ne (Or.inr (own_w hw (i := 44) rfl)) (Or.inl (own_w hw (i := 15) rfl)) (by decide) (t := (.object "com/example/joinweave/joinweave/graph/UnionFind")) (t' := .int) (by decide) (by decide))), F.2.2.2.2.2.2.2.2.1.other W (Or.inr (slot_ne (Or.inr (own_w hw (i := 67) rfl)) (Or.inl (own_w hw (i := 15) rfl)) (by decide) (t := (.array .byte)) (t' := .int) (by decide) (by decide))), F.2.2.2.2.2.2.2.2.2.1.same W, F.2.2.2.2.2.2.2.2.2.2.1.other W (Or.inr (slot_ne (Or.inr (own_w hw (i := 69) rfl)) (Or.inl (own_w hw (i := 15) rfl)) (by decide) (t := (.array .int)) (t' := .int) (by decide) (by decide))), F.2.2.2.2.2.2.2.2.2.2.2.other W (Or.inr (slot_ne (Or.inl (own_w hw (i := 76) rfl)) (Or.inl (own_w hw (i := 15) rfl)) (by decide) (t := .int) (t' := .int) (by decide) (by decide)))⟩
theorem CF.w_taken {Z : State} {a0 : Array Value} (hw : ∀ d ∈ tables_1, d.before a0 Z = true) {h h' : Heap} {c : Nat} {w : Value} {v0 v1 v2 v3 v4 v5 v6 v7 v8 v9 v10 : Value} (F : CF Z h c v0 v1 v2 v3 v4 v5 v6 v7 v8 v9 v10) (W : Wr h h' c (Jvm.RoadKit.slotOf Z "com/example/joinweave/joinweave/graph/CoreTrees" "taken" "[I") w) : CF Z h' c v0 v1 v2 v3 v4 v5 v6 v7 v8 w v10 := ⟨F.1.wr W, F.2.1.other W (Or.inr (slot_ne (Or.inr (own_w hw (i := 17) rfl)) (Or.inr (own_w hw (i := 69) rfl)) (by decide) (t := .int) (t' := (.array .int)) (by decide) (by decide))), F.2.2.1.other W (Or.inr (slot_ne (Or.inr (own_w hw (i := 19) rfl)) (Or.inr (own_w hw (i := 69) rfl)) (by decide) (t := (.array .int)) (t' := (.array .int)) (by decide) (by decide))), F.2.2.2.1.other W (Or.inr (slot_ne (Or.inr (own_w hw (i := 21) rfl)) (Or.inr (own_w hw (i := 69) rfl)) (by decide) (t := (.array .int)) (t' := (.array .int)) (by decide) (by decide))), F.2.2.2.2.1.other W (Or.inr (slot_ne (Or.inr (own_w hw (i := 23) rfl)) (Or.inr (own_w hw (i := 69) rfl)) (by decide) (t := (.array .int)) (t' := (.array .int)) (by decide) (by decide))), F.2.2.2.2.2.1.other W (Or.inr (slot_ne (Or.inr (own_w hw (i := 25) rfl)) (Or.inr (own_w hw (i := 69) rfl)) (by decide) (t := (.array .int)) (t' := (.array .int)) (by decide) (by decide))), F.2.2.2.2.2.2.1.other W (Or.inr (slot_ne (Or.inr (own_w hw (i := 64) rfl)) (Or.inr (own_w hw (i := 69) rfl)) (by decide) (t := .int) (t' := (.array .int)) (by decide) (by decide))), F.2.2.2.2.2.2.2.1.other W (Or.inr (slot_ne (Or.inr (own_w hw (i := 44) rfl)) (Or.inr (own_w hw (i := 69) rfl)) (by decide) (t := (.object "com/example/joinweave/joinweave/graph/UnionFind")) (t' := (.array .int)) (by decide) (by decide))), F.2.2.2.2.2.2.2.2.1.other W (Or.inr (slot_ne (Or.inr (own_w hw (i := 67) rfl)) (Or.inr (own_w hw (i := 69) rfl)) (by decide) (t := (.array .byte)) (t' := (.array .int)) (by decide) (by decide))), F.2.2.2.2.2.2.2.2.2.1.other W (Or.inr (slot_ne (Or.inl (own_w hw (i := 15) rfl)) (Or.inr (own_w hw (i := 69) rfl)) (by decide) (t := .int) (t' := (.array .int)) (by decide) (by decide))), F.2.2.2.2.2.2.2.2.2.2.1.same W, F.2.2.2.2.2.2.2.2.2.2.2.other W (Or.inr (slot_ne (Or.inl (own_w hw (i := 76) rfl)) (Or.inr (own_w hw (i := 69) rfl)) (by decide) (t := .int) (t' := (.array .int)) (by decide) (by decide)))⟩
theorem CF.w_takenCount {Z : State} {a0 : Array Value} (hw : ∀ d ∈ tables_1, d.before a0 Z = true) {h h' : Heap} {c : Nat} {w : Value} {v0 v1 v2 v3 v4 v5 v6 v7 v8 v9 v10 : Value} (F : CF Z h c v0 v1 v2 v3 v4 v5 v6 v7 v8 v9 v10) (W : Wr h h' c (Jvm.RoadKit.slotOf Z "com/example/joinweave/joinweave/graph/CoreTrees" "takenCount" "I") w) : CF Z h' c v0 v1 v2 v3 v4 v5 v6 v7 v8 v9 w := ⟨F.1.wr W, F.2.1.other W (Or.inr (slot_ne (Or.inr (own_w hw (i := 17) rfl)) (Or.inl (own_w hw (i := 76) rfl)) (by decide) (t := .int) (t' := .int) (by decide) (by decide))), F.2.2.1.other W (Or.inr (slot_ne (Or.inr (own_w hw (i := 19) rfl)) (Or.inl (own_w hw (i := 76) rfl)) (by decide) (t := (.array .int)) (t' := .int) (by decide) (by decide))), F.2.2.2.1.other W (Or.inr (slot_ne (Or.inr (own_w hw (i := 21) rfl)) (Or.inl (own_w hw (i := 76) rfl)) (by decide) (t := (.array .int)) (t' := .int) (by decide) (by decide))), F.2.2.2.2.1.other W (Or.inr (slot_ne (Or.inr (own_w hw (i := 23) rfl)) (Or.inl (own_w hw (i := 76) rfl)) (by decide) (t := (.array .int)) (t' := .int) (by decide) (by decide))), F.2.2.2.2.2.1.other W (Or.inr (slot_ne (Or.inr (own_w hw (i := 25) rfl)) (Or.inl (own_w hw (i := 76) rfl)) (by decide) (t := (.array .int)) (t' := .int) (by decide) (by decide))), F.2.2.2.2.2.2.1.other W (Or.inr (slot_ne (Or.inr (own_w hw (i := 64) rfl)) (Or.inl (own_w hw (i := 76) rfl)) (by decide) (t := .int) (t' := .int) (by decide) (by decide))), F.2.2.2.2.2.2.2.1.other W (Or.inr (slot_ne (Or.inr (own_w hw (i := 44) rfl)) (Or.inl (own_w hw (i := 76) rfl)) (by decide) (t := (.object "com/example/joinweave/joinweave/graph/UnionFind")) (t' := .int) (by decide) (by decide))), F.2.2.2.2.2.2.2.2.1.other W (Or.inr (slot_ne (Or.inr (own_w hw (i := 67) rfl)) (Or.inl (own_w hw (i := 76) rfl)) (by decide) (t := (.array .byte)) (t' := .int) (by decide) (by decide))), F.2.2.2.2.2.2.2.2.2.1.other W (Or.inr (slot_ne (Or.inl (own_w hw (i := 15) rfl)) (Or.inl (own_w hw (i := 76) rfl)) (by decide) (t := .int) (t' := .int) (by decide) (by decide))), F.2.2.2.2.2.2.2.2.2.2.1.other W (Or.inr (slot_ne (Or.inr (own_w hw (i := 69) rfl)) (Or.inl (own_w hw (i := 76) rfl)) (by decide) (t := (.array .int)) (t' := .int) (by decide) (by decide))), F.2.2.2.2.2.2.2.2.2.2.2.same W⟩
def Ct (Z : State) (h : Heap) (c A B D P f pa sa ha CH TK : Nat) (la lb le lp : List Nat) (ls : Nat) (u : UFS) (ch tk : List Nat) (tc d1 : Nat) : Prop :=
  CF Z h c (.int 3) (.ref A) (.ref B) (.ref D) (.ref P) (.int (Int32.ofNat ls)) (.ref f) (.ref CH) (.int (Int32.ofNat d1 - 1)) (.ref TK) (.int (Int32.ofNat tc)) ∧ An Z h A .int la ∧ An Z h B .int lb ∧ An Z h D .int le ∧ An Z h P .int lp ∧ An Z h CH .byte ch ∧ An Z h TK .int tk ∧ Uf Z h f pa sa ha u ∧ c < A ∧ A < B ∧ B < D ∧ D < P ∧ P < f ∧ f < pa ∧ pa < sa ∧ sa < ha ∧ ha < CH ∧ CH < TK
abbrev adrs (c A B D P f pa sa ha CH TK : Nat) : List Nat := [c, A, B, D, P, f, pa, sa, ha, CH, TK]
section CtLaws
variable {Z : State} {h h' : Heap} {c A B D P f pa sa ha CH TK : Nat} {la lb le lp : List Nat} {ls : Nat} {u : UFS} {ch tk : List Nat} {tc d1 : Nat}
theorem Ct.ext (F : Ct Z h c A B D P f pa sa ha CH TK la lb le lp ls u ch tk tc d1) (x : Ext h h') : Ct Z h' c A B D P f pa sa ha CH TK la lb le lp ls u ch tk tc d1 := by
  obtain ⟨f1, f2, f3, f4, f5, f6, f7, f8, r⟩ := F
  exact ⟨f1.ext x, Ai.ext f2 x, Ai.ext f3 x, Ai.ext f4 x, Ai.ext f5 x, Ai.ext f6 x, Ai.ext f7 x, f8.ext x, r⟩
theorem Ct.wCh {i v : Nat} (F : Ct Z h c A B D P f pa sa ha CH TK la lb le lp ls u ch tk tc d1) (W : Wr h h' CH i (.int (Int32.ofNat v))) : Ct Z h' c A B D P f pa sa ha CH TK la lb le lp ls u (ch.set i v) tk tc d1 := by
  obtain ⟨f1, f2, f3, f4, f5, f6, f7, f8, r1, r2, r3, r4, r5, r6, r7, r8, r9, r10⟩ := F
  exact ⟨f1.other W (by omega), Ai.other f2 W (by omega), Ai.other f3 W (by omega), Ai.other f4 W (by omega), Ai.other f5 W (by omega), An.setW f6 W, Ai.other f7 W (by omega), f8.other W (by omega) (by omega) (by omega) (by omega), r1, r2, r3, r4, r5, r6, r7, r8, r9, r10⟩
theorem Ct.wTk {i v : Nat} (F : Ct Z h c A B D P f pa sa ha CH TK la lb le lp ls u ch tk tc d1) (W : Wr h h' TK i (.int (Int32.ofNat v))) : Ct Z h' c A B D P f pa sa ha CH TK la lb le lp ls u ch (tk.set i v) tc d1 := by
  obtain ⟨f1, f2, f3, f4, f5, f6, f7, f8, r1, r2, r3, r4, r5, r6, r7, r8, r9, r10⟩ := F
  exact ⟨f1.other W (by omega), Ai.other f2 W (by omega), Ai.other f3 W (by omega), Ai.other f4 W (by omega), Ai.other f5 W (by omega), Ai.other f6 W (by omega), An.setW f7 W, f8.other W (by omega) (by omega) (by omega) (by omega), r1, r2, r3, r4, r5, r6, r7, r8, r9, r10⟩
theorem Ct.wTc {a0 : Array Value} (hw : ∀ d ∈ tables_1, d.before a0 Z = true) {v : Nat} (F : Ct Z h c A B D P f pa sa ha CH TK la lb le lp ls u ch tk tc d1) (W : Wr h h' c (Jvm.RoadKit.slotOf Z "com/example/joinweave/joinweave/graph/CoreTrees" "takenCount" "I") (.int (Int32.ofNat v))) : Ct Z h' c A B D P f pa sa ha CH TK la lb le lp ls u ch tk v d1 := by
  obtain ⟨f1, f2, f3, f4, f5, f6, f7, f8, r1, r2, r3, r4, r5, r6, r7, r8, r9, r10⟩ := F
  exact ⟨f1.w_takenCount hw W, Ai.other f2 W (by omega), Ai.other f3 W (by omega), Ai.other f4 W (by omega), Ai.other f5 W (by omega), Ai.other f6 W (by omega), Ai.other f7 W (by omega), f8.other W (by omega) (by omega) (by omega) (by omega), r1, r2, r3, r4, r5, r6, r7, r8, r9, r10⟩
theorem Ct.wDe {a0 : Array Value} (hw : ∀ d ∈ tables_1, d.before a0 Z = true) {v : Nat} (F : Ct Z h c A B D P f pa sa ha CH TK la lb le lp ls u ch tk tc d1) (W : Wr h h' c (Jvm.RoadKit.slotOf Z "com/example/joinweave/joinweave/graph/CoreTrees" "decided" "I") (.int (Int32.ofNat v - 1))) : Ct Z h' c A B D P f pa sa ha CH TK la lb le lp ls u ch tk tc v := by
  obtain ⟨f1, f2, f3, f4, f5, f6, f7, f8, r1, r2, r3, r4, r5, r6, r7, r8, r9, r10⟩ := F
  exact ⟨f1.w_decided hw W, Ai.other f2 W (by omega), Ai.other f3 W (by omega), Ai.other f4 W (by omega), Ai.other f5 W (by omega), Ai.other f6 W (by omega), Ai.other f7 W (by omega), f8.other W (by omega) (by omega) (by omega) (by omega), r1, r2, r3, r4, r5, r6, r7, r8, r9, r10⟩
theorem nin4 {x a b c d : Nat} (h1 : x ≠ a) (h2 : x ≠ b) (h3 : x ≠ c) (h4 : x ≠ d) : x ∉ [a, b, c, d] := ninS h1 (ninS h2 (ninS h3 (ninS h4 nin0)))
theorem Ct.wF {u' : UFS} (F : Ct Z h c A B D P f pa sa ha CH TK la lb le lp ls u ch tk tc d1) (K : Keep h h' [f, pa, sa, ha]) (U : Uf Z h' f pa sa ha u') : Ct Z h' c A B D P f pa sa ha CH TK la lb le lp ls u' ch tk tc d1 := by
  obtain ⟨f1, f2, f3, f4, f5, f6, f7, f8, r1, r2, r3, r4, r5, r6, r7, r8, r9, r10⟩ := F
  have q : ∀ x : Nat, (x < f ∨ ha < x) → x ∉ [f, pa, sa, ha] := fun x hx => nin4 (by omega) (by omega) (by omega) (by omega)
  exact ⟨f1.keep K (q _ (by omega)), Ai.keep f2 K (q _ (by omega)), Ai.keep f3 K (q _ (by omega)), Ai.keep f4 K (q _ (by omega)), Ai.keep f5 K (q _ (by omega)), Ai.keep f6 K (q _ (by omega)), Ai.keep f7 K (q _ (by omega)), U, r1, r2, r3, r4, r5, r6, r7, r8, r9, r10⟩
theorem Ct.keep {ws : List Nat} (F : Ct Z h c A B D P f pa sa ha CH TK la lb le lp ls u ch tk tc d1) (K : Keep h h' ws) (q : ∀ x ∈ ws, TK < x) : Ct Z h' c A B D P f pa sa ha CH TK la lb le lp ls u ch tk tc d1 := by
  obtain ⟨f1, f2, f3, f4, f5, f6, f7, f8, r1, r2, r3, r4, r5, r6, r7, r8, r9, r10⟩ := F
  have p : ∀ x : Nat, x ≤ TK → x ∉ ws := fun x hx hm => by have := q x hm; omega
  exact ⟨f1.keep K (p _ (by omega)), Ai.keep f2 K (p _ (by omega)), Ai.keep f3 K (p _ (by omega)), Ai.keep f4 K (p _ (by omega)), Ai.keep f5 K (p _ (by omega)), Ai.keep f6 K (p _ (by omega)), Ai.keep f7 K (p _ (by omega)), f8.keep K (p _ (by omega)) (p _ (by omega)) (p _ (by omega)) (p _ (by omega)), r1, r2, r3, r4, r5, r6, r7, r8, r9, r10⟩
end CtLaws
/-! ## CoreTrees, plain -/
abbrev CTV : Type := UFS × List Nat × List Nat × Nat
def takeF (la lb le : List Nat) : Nat → CTV → Nat → Option (CTV × Nat)
  | 0, _, _ => none
  | g + 1, S, nx => if S.2.2.2 < 2 then
      match la[nx]? with
      | none => none
      | some a => match lb[nx]? with
        | none => none
        | some b => match unionF S.1 a b with
          | none => none
          | some t => if t.1 = 0 then (if nx < S.2.1.length then takeF la lb le g (t.2, S.2.1.set nx 2, S.2.2.1, S.2.2.2) (nx + 1) else none)
            else match le[nx]? with
              | none => none
              | some e => if nx < S.2.1.length ∧ S.2.2.2 < S.2.2.1.length then takeF la lb le g (t.2, S.2.1.set nx 1, S.2.2.1.set S.2.2.2 e, S.2.2.2 + 1) (nx + 1) else none
    else if S.2.2.2 < 100 then some (S, nx) else none
def joinF (la lb : List Nat) : Nat → UFS → Nat → Nat → Option (UFS × Nat)
  | 0, _, _, _ => none
  | g + 1, u, i, j => if i < la.length then
      match la[i]? with
      | none => none
      | some a => match lb[i]? with
        | none => none
        | some b => match unionF u a b with
          | none => none
          | some t => joinF la lb g t.2 (i + 1) (j + t.1)
    else if i < 100 ∧ j < 100 ∧ la.length < 100 then some (u, j) else none
def undoN : Nat → UFS → Option UFS
  | 0, u => some u
  | n + 1, u => match undoF u with
    | none => none
    | some u' => undoN n u'
def leaveF (la lb : List Nat) (ls : Nat) (u : UFS) (p : Nat) : Option (Nat × UFS) :=
  if p < ls then (if ls < 100 then some (1, u) else none) else
  if p < 100 then match joinF la lb 10 u (p + 1) 0 with
    | none => none
    | some t => match undoN t.2 t.1 with
      | none => none
      | some u' => if t.1.2.2.2 ≤ t.1.1.length ∧ t.1.1.length < 100 ∧ t.2 < 100 then some (if t.1.1.length - t.1.2.2.2 = 1 then 1 else 0, u') else none
  else none
def nextF (la lb le : List Nat) (ls : Nat) : Nat → CTV → Option (Nat × CTV × Nat)
  | 0, S => some (0, S, 0)
  | p + 1, S => match S.2.1[p]? with
    | none => none
    | some x => if x = 1 then
        match undoF S.1 with
        | none => none
        | some u1 => if 0 < S.2.2.2 then
            match leaveF la lb ls u1 p with
            | none => none
            | some t => if t.1 = 0 then nextF la lb le ls p (t.2, S.2.1, S.2.2.1, S.2.2.2 - 1) else
                match takeF la lb le 10 (t.2, S.2.1.set p 2, S.2.2.1, S.2.2.2 - 1) (p + 1) with
                | none => none
                | some r => some (1, r.1, r.2)
          else none
      else if x < 100 then nextF la lb le ls p S else none
def takenF (lp ch : List Nat) (d1 i : Nat) : Option Nat :=
  match lp[i]? with
  | none => none
  | some p => if p < 100 ∧ d1 < 100 then (if p < d1 then (match ch[p]? with
      | none => none
      | some x => if x = 1 then some 1 else if x < 100 then some 0 else none) else some 0) else none
theorem unionF_01 {u u' : UFS} {a b r : Nat} (h : unionF u a b = some (r, u')) : r = 0 ∨ r = 1 := by
  unfold unionF at h
  cases h1 : findF u.1 8 a with
  | none => rw [h1] at h; cases h
  | some s =>
    rw [h1] at h; dsimp only at h
    cases h2 : findF u.1 8 b with
    | none => rw [h2] at h; cases h
    | some l =>
      rw [h2] at h; dsimp only at h
      by_cases e : s = l
      · rw [if_pos e] at h; cases h; exact Or.inl rfl
      · rw [if_neg e] at h
        cases h3 : u.2.1[s]? with
        | none => rw [h3] at h; cases h
        | some zs =>
          rw [h3] at h; dsimp only at h
          cases h4 : u.2.1[l]? with
          | none => rw [h4] at h; cases h
          | some zl =>
            rw [h4] at h; dsimp only at h
            by_cases c1 : zs < 100 ∧ zl < 100 ∧ u.2.2.2 < u.2.2.1.length
            · rw [if_pos c1] at h
              by_cases c2 : zl < zs
              · rw [if_pos c2] at h; cases h; exact Or.inr rfl
              · rw [if_neg c2] at h; cases h; exact Or.inr rfl
            · rw [if_neg c1] at h; cases h
theorem d10_0 : decode prog_138_method_6_code 0 = .ok (.iload_n 1, 1) := by decide +kernel
theorem d10_1 : decode prog_138_method_6_code 1 = .ok (.istore_n 2, 1) := by decide +kernel
theorem d10_2 : decode prog_138_method_6_code 2 = .ok (.aload_n 0, 1) := by decide +kernel
theorem d10_3 : decode prog_138_method_6_code 3 = .ok (.getfield 55, 3) := by decide +kernel
theorem d10_6 : decode prog_138_method_6_code 6 = .ok (.aload_n 0, 1) := by decide +kernel
theorem d10_7 : decode prog_138_method_6_code 7 = .ok (.getfield 13, 3) := by decide +kernel
theorem d10_10 : decode prog_138_method_6_code 10 = .ok (.iconst 1, 1) := by decide +kernel
theorem d10_11 : decode prog_138_method_6_code 11 = .ok (.isub, 1) := by decide +kernel
theorem d10_12 : decode prog_138_method_6_code 12 = .ok (.if_icmp .ge 70, 3) := by decide +kernel
theorem d10_15 : decode prog_138_method_6_code 15 = .ok (.aload_n 0, 1) := by decide +kernel
theorem d10_16 : decode prog_138_method_6_code 16 = .ok (.getfield 34, 3) := by decide +kernel
theorem d10_19 : decode prog_138_method_6_code 19 = .ok (.aload_n 0, 1) := by decide +kernel
theorem d10_20 : decode prog_138_method_6_code 20 = .ok (.getfield 16, 3) := by decide +kernel
theorem d10_23 : decode prog_138_method_6_code 23 = .ok (.iload_n 2, 1) := by decide +kernel
theorem d10_24 : decode prog_138_method_6_code 24 = .ok (.iaload, 1) := by decide +kernel
theorem d10_25 : decode prog_138_method_6_code 25 = .ok (.aload_n 0, 1) := by decide +kernel
theorem d10_26 : decode prog_138_method_6_code 26 = .ok (.getfield 20, 3) := by decide +kernel
theorem d10_29 : decode prog_138_method_6_code 29 = .ok (.iload_n 2, 1) := by decide +kernel
theorem d10_30 : decode prog_138_method_6_code 30 = .ok (.iaload, 1) := by decide +kernel
theorem d10_31 : decode prog_138_method_6_code 31 = .ok (.invokevirtual 38, 3) := by decide +kernel
theorem d10_34 : decode prog_138_method_6_code 34 = .ok (.ifCond .eq 35, 3) := by decide +kernel
theorem d10_37 : decode prog_138_method_6_code 37 = .ok (.aload_n 0, 1) := by decide +kernel
theorem d10_38 : decode prog_138_method_6_code 38 = .ok (.getfield 48, 3) := by decide +kernel
theorem d10_41 : decode prog_138_method_6_code 41 = .ok (.iload_n 2, 1) := by decide +kernel
theorem d10_42 : decode prog_138_method_6_code 42 = .ok (.iconst 1, 1) := by decide +kernel
theorem d10_43 : decode prog_138_method_6_code 43 = .ok (.bastore, 1) := by decide +kernel
theorem d10_44 : decode prog_138_method_6_code 44 = .ok (.aload_n 0, 1) := by decide +kernel
theorem d10_45 : decode prog_138_method_6_code 45 = .ok (.getfield 52, 3) := by decide +kernel
theorem d10_48 : decode prog_138_method_6_code 48 = .ok (.aload_n 0, 1) := by decide +kernel
theorem d10_49 : decode prog_138_method_6_code 49 = .ok (.dup, 1) := by decide +kernel
theorem d10_50 : decode prog_138_method_6_code 50 = .ok (.getfield 55, 3) := by decide +kernel
theorem d10_53 : decode prog_138_method_6_code 53 = .ok (.dup_x1, 1) := by decide +kernel
theorem d10_54 : decode prog_138_method_6_code 54 = .ok (.iconst 1, 1) := by decide +kernel
theorem d10_55 : decode prog_138_method_6_code 55 = .ok (.iadd, 1) := by decide +kernel
theorem d10_56 : decode prog_138_method_6_code 56 = .ok (.putfield 55, 3) := by decide +kernel
theorem d10_59 : decode prog_138_method_6_code 59 = .ok (.aload_n 0, 1) := by decide +kernel
theorem d10_60 : decode prog_138_method_6_code 60 = .ok (.getfield 23, 3) := by decide +kernel
theorem d10_63 : decode prog_138_method_6_code 63 = .ok (.iload_n 2, 1) := by decide +kernel
theorem d10_64 : decode prog_138_method_6_code 64 = .ok (.iaload, 1) := by decide +kernel
theorem d10_65 : decode prog_138_method_6_code 65 = .ok (.iastore, 1) := by decide +kernel
theorem d10_66 : decode prog_138_method_6_code 66 = .ok (.goto 10, 3) := by decide +kernel
theorem d10_69 : decode prog_138_method_6_code 69 = .ok (.aload_n 0, 1) := by decide +kernel
theorem d10_70 : decode prog_138_method_6_code 70 = .ok (.getfield 48, 3) := by decide +kernel
theorem d10_73 : decode prog_138_method_6_code 73 = .ok (.iload_n 2, 1) := by decide +kernel
theorem d10_74 : decode prog_138_method_6_code 74 = .ok (.iconst 2, 1) := by decide +kernel
theorem d10_75 : decode prog_138_method_6_code 75 = .ok (.bastore, 1) := by decide +kernel
theorem d10_76 : decode prog_138_method_6_code 76 = .ok (.iinc 2 1, 3) := by decide +kernel
theorem d10_79 : decode prog_138_method_6_code 79 = .ok (.goto (-77), 3) := by decide +kernel
theorem d10_82 : decode prog_138_method_6_code 82 = .ok (.aload_n 0, 1) := by decide +kernel
theorem d10_83 : decode prog_138_method_6_code 83 = .ok (.iload_n 2, 1) := by decide +kernel
theorem d10_84 : decode prog_138_method_6_code 84 = .ok (.iconst 1, 1) := by decide +kernel
theorem d10_85 : decode prog_138_method_6_code 85 = .ok (.isub, 1) := by decide +kernel
theorem d10_86 : decode prog_138_method_6_code 86 = .ok (.putfield 7, 3) := by decide +kernel
theorem d10_89 : decode prog_138_method_6_code 89 = .ok (.return_, 1) := by decide +kernel
theorem d12_0 : decode prog_138_method_7_code 0 = .ok (.iload_n 1, 1) := by decide +kernel
theorem d12_1 : decode prog_138_method_7_code 1 = .ok (.aload_n 0, 1) := by decide +kernel
theorem d12_2 : decode prog_138_method_7_code 2 = .ok (.getfield 45, 3) := by decide +kernel
theorem d12_5 : decode prog_138_method_7_code 5 = .ok (.if_icmp .ge 5, 3) := by decide +kernel
theorem d12_8 : decode prog_138_method_7_code 8 = .ok (.iconst 1, 1) := by decide +kernel
theorem d12_9 : decode prog_138_method_7_code 9 = .ok (.ireturn, 1) := by decide +kernel
theorem d12_10 : decode prog_138_method_7_code 10 = .ok (.iconst 0, 1) := by decide +kernel
theorem d12_11 : decode prog_138_method_7_code 11 = .ok (.istore_n 2, 1) := by decide +kernel
theorem d12_12 : decode prog_138_method_7_code 12 = .ok (.iload_n 1, 1) := by decide +kernel
theorem d12_13 : decode prog_138_method_7_code 13 = .ok (.iconst 1, 1) := by decide +kernel
theorem d12_14 : decode prog_138_method_7_code 14 = .ok (.iadd, 1) := by decide +kernel
theorem d12_15 : decode prog_138_method_7_code 15 = .ok (.istore_n 3, 1) := by decide +kernel
theorem d12_16 : decode prog_138_method_7_code 16 = .ok (.iload_n 3, 1) := by decide +kernel
theorem d12_17 : decode prog_138_method_7_code 17 = .ok (.aload_n 0, 1) := by decide +kernel
theorem d12_18 : decode prog_138_method_7_code 18 = .ok (.getfield 16, 3) := by decide +kernel
theorem d12_21 : decode prog_138_method_7_code 21 = .ok (.arraylength, 1) := by decide +kernel
theorem d12_22 : decode prog_138_method_7_code 22 = .ok (.if_icmp .ge 34, 3) := by decide +kernel
theorem d12_25 : decode prog_138_method_7_code 25 = .ok (.aload_n 0, 1) := by decide +kernel
theorem d12_26 : decode prog_138_method_7_code 26 = .ok (.getfield 34, 3) := by decide +kernel
theorem d12_29 : decode prog_138_method_7_code 29 = .ok (.aload_n 0, 1) := by decide +kernel
theorem d12_30 : decode prog_138_method_7_code 30 = .ok (.getfield 16, 3) := by decide +kernel
theorem d12_33 : decode prog_138_method_7_code 33 = .ok (.iload_n 3, 1) := by decide +kernel
theorem d12_34 : decode prog_138_method_7_code 34 = .ok (.iaload, 1) := by decide +kernel
theorem d12_35 : decode prog_138_method_7_code 35 = .ok (.aload_n 0, 1) := by decide +kernel
theorem d12_36 : decode prog_138_method_7_code 36 = .ok (.getfield 20, 3) := by decide +kernel
theorem d12_39 : decode prog_138_method_7_code 39 = .ok (.iload_n 3, 1) := by decide +kernel
theorem d12_40 : decode prog_138_method_7_code 40 = .ok (.iaload, 1) := by decide +kernel
theorem d12_41 : decode prog_138_method_7_code 41 = .ok (.invokevirtual 38, 3) := by decide +kernel
theorem d12_44 : decode prog_138_method_7_code 44 = .ok (.ifCond .eq 6, 3) := by decide +kernel
theorem d12_47 : decode prog_138_method_7_code 47 = .ok (.iinc 2 1, 3) := by decide +kernel
theorem d12_50 : decode prog_138_method_7_code 50 = .ok (.iinc 3 1, 3) := by decide +kernel
theorem d12_53 : decode prog_138_method_7_code 53 = .ok (.goto (-37), 3) := by decide +kernel
theorem d12_56 : decode prog_138_method_7_code 56 = .ok (.aload_n 0, 1) := by decide +kernel
theorem d12_57 : decode prog_138_method_7_code 57 = .ok (.getfield 34, 3) := by decide +kernel
theorem d12_60 : decode prog_138_method_7_code 60 = .ok (.invokevirtual 71, 3) := by decide +kernel
theorem d12_63 : decode prog_138_method_7_code 63 = .ok (.iconst 1, 1) := by decide +kernel
theorem d12_64 : decode prog_138_method_7_code 64 = .ok (.if_icmp .ne 7, 3) := by decide +kernel
theorem d12_67 : decode prog_138_method_7_code 67 = .ok (.iconst 1, 1) := by decide +kernel
theorem d12_68 : decode prog_138_method_7_code 68 = .ok (.goto 4, 3) := by decide +kernel
theorem d12_71 : decode prog_138_method_7_code 71 = .ok (.iconst 0, 1) := by decide +kernel
theorem d12_72 : decode prog_138_method_7_code 72 = .ok (.istore_n 3, 1) := by decide +kernel
theorem d12_73 : decode prog_138_method_7_code 73 = .ok (.iconst 0, 1) := by decide +kernel
theorem d12_74 : decode prog_138_method_7_code 74 = .ok (.istore 4, 2) := by decide +kernel
theorem d12_76 : decode prog_138_method_7_code 76 = .ok (.iload 4, 2) := by decide +kernel
theorem d12_78 : decode prog_138_method_7_code 78 = .ok (.iload_n 2, 1) := by decide +kernel
theorem d12_79 : decode prog_138_method_7_code 79 = .ok (.if_icmp .ge 16, 3) := by decide +kernel
theorem d12_82 : decode prog_138_method_7_code 82 = .ok (.aload_n 0, 1) := by decide +kernel
theorem d12_83 : decode prog_138_method_7_code 83 = .ok (.getfield 34, 3) := by decide +kernel
theorem d12_86 : decode prog_138_method_7_code 86 = .ok (.invokevirtual 42, 3) := by decide +kernel
theorem d12_89 : decode prog_138_method_7_code 89 = .ok (.iinc 4 1, 3) := by decide +kernel
theorem d12_92 : decode prog_138_method_7_code 92 = .ok (.goto (-16), 3) := by decide +kernel
theorem d12_95 : decode prog_138_method_7_code 95 = .ok (.iload_n 3, 1) := by decide +kernel
theorem d12_96 : decode prog_138_method_7_code 96 = .ok (.ireturn, 1) := by decide +kernel
theorem d11_0 : decode prog_138_method_3_code 0 = .ok (.aload_n 0, 1) := by decide +kernel
theorem d11_1 : decode prog_138_method_3_code 1 = .ok (.getfield 7, 3) := by decide +kernel
theorem d11_4 : decode prog_138_method_3_code 4 = .ok (.istore_n 1, 1) := by decide +kernel
theorem d11_5 : decode prog_138_method_3_code 5 = .ok (.iload_n 1, 1) := by decide +kernel
theorem d11_6 : decode prog_138_method_3_code 6 = .ok (.ifCond .lt 60, 3) := by decide +kernel
theorem d11_9 : decode prog_138_method_3_code 9 = .ok (.aload_n 0, 1) := by decide +kernel
theorem d11_10 : decode prog_138_method_3_code 10 = .ok (.getfield 48, 3) := by decide +kernel
theorem d11_13 : decode prog_138_method_3_code 13 = .ok (.iload_n 1, 1) := by decide +kernel
theorem d11_14 : decode prog_138_method_3_code 14 = .ok (.baload, 1) := by decide +kernel
theorem d11_15 : decode prog_138_method_3_code 15 = .ok (.iconst 1, 1) := by decide +kernel
theorem d11_16 : decode prog_138_method_3_code 16 = .ok (.if_icmp .ne 44, 3) := by decide +kernel
theorem d11_19 : decode prog_138_method_3_code 19 = .ok (.aload_n 0, 1) := by decide +kernel
theorem d11_20 : decode prog_138_method_3_code 20 = .ok (.getfield 34, 3) := by decide +kernel
theorem d11_23 : decode prog_138_method_3_code 23 = .ok (.invokevirtual 42, 3) := by decide +kernel
theorem d11_26 : decode prog_138_method_3_code 26 = .ok (.aload_n 0, 1) := by decide +kernel
theorem d11_27 : decode prog_138_method_3_code 27 = .ok (.dup, 1) := by decide +kernel
theorem d11_28 : decode prog_138_method_3_code 28 = .ok (.getfield 55, 3) := by decide +kernel
theorem d11_31 : decode prog_138_method_3_code 31 = .ok (.iconst 1, 1) := by decide +kernel
theorem d11_32 : decode prog_138_method_3_code 32 = .ok (.isub, 1) := by decide +kernel
theorem d11_33 : decode prog_138_method_3_code 33 = .ok (.putfield 55, 3) := by decide +kernel
theorem d11_36 : decode prog_138_method_3_code 36 = .ok (.aload_n 0, 1) := by decide +kernel
theorem d11_37 : decode prog_138_method_3_code 37 = .ok (.iload_n 1, 1) := by decide +kernel
theorem d11_38 : decode prog_138_method_3_code 38 = .ok (.invokevirtual 61, 3) := by decide +kernel
theorem d11_41 : decode prog_138_method_3_code 41 = .ok (.ifCond .eq 19, 3) := by decide +kernel
theorem d11_44 : decode prog_138_method_3_code 44 = .ok (.aload_n 0, 1) := by decide +kernel
theorem d11_45 : decode prog_138_method_3_code 45 = .ok (.getfield 48, 3) := by decide +kernel
theorem d11_48 : decode prog_138_method_3_code 48 = .ok (.iload_n 1, 1) := by decide +kernel
theorem d11_49 : decode prog_138_method_3_code 49 = .ok (.iconst 2, 1) := by decide +kernel
theorem d11_50 : decode prog_138_method_3_code 50 = .ok (.bastore, 1) := by decide +kernel
theorem d11_51 : decode prog_138_method_3_code 51 = .ok (.aload_n 0, 1) := by decide +kernel
theorem d11_52 : decode prog_138_method_3_code 52 = .ok (.iload_n 1, 1) := by decide +kernel
theorem d11_53 : decode prog_138_method_3_code 53 = .ok (.iconst 1, 1) := by decide +kernel
theorem d11_54 : decode prog_138_method_3_code 54 = .ok (.iadd, 1) := by decide +kernel
theorem d11_55 : decode prog_138_method_3_code 55 = .ok (.invokevirtual 58, 3) := by decide +kernel
theorem d11_58 : decode prog_138_method_3_code 58 = .ok (.iconst 1, 1) := by decide +kernel
theorem d11_59 : decode prog_138_method_3_code 59 = .ok (.ireturn, 1) := by decide +kernel
theorem d11_60 : decode prog_138_method_3_code 60 = .ok (.iinc 1 (-1), 3) := by decide +kernel
theorem d11_63 : decode prog_138_method_3_code 63 = .ok (.goto (-58), 3) := by decide +kernel
theorem d11_66 : decode prog_138_method_3_code 66 = .ok (.aload_n 0, 1) := by decide +kernel
theorem d11_67 : decode prog_138_method_3_code 67 = .ok (.iconst (-1), 1) := by decide +kernel
theorem d11_68 : decode prog_138_method_3_code 68 = .ok (.putfield 7, 3) := by decide +kernel
theorem d11_71 : decode prog_138_method_3_code 71 = .ok (.iconst 0, 1) := by decide +kernel
theorem d11_72 : decode prog_138_method_3_code 72 = .ok (.ireturn, 1) := by decide +kernel
theorem d9_0 : decode prog_138_method_2_code 0 = .ok (.aload_n 0, 1) := by decide +kernel
theorem d9_1 : decode prog_138_method_2_code 1 = .ok (.getfield 55, 3) := by decide +kernel
theorem d9_4 : decode prog_138_method_2_code 4 = .ok (.ifCond .le 23, 3) := by decide +kernel
theorem d9_7 : decode prog_138_method_2_code 7 = .ok (.aload_n 0, 1) := by decide +kernel
theorem d9_8 : decode prog_138_method_2_code 8 = .ok (.getfield 34, 3) := by decide +kernel
theorem d9_11 : decode prog_138_method_2_code 11 = .ok (.invokevirtual 42, 3) := by decide +kernel
theorem d9_14 : decode prog_138_method_2_code 14 = .ok (.aload_n 0, 1) := by decide +kernel
theorem d9_15 : decode prog_138_method_2_code 15 = .ok (.dup, 1) := by decide +kernel
theorem d9_16 : decode prog_138_method_2_code 16 = .ok (.getfield 55, 3) := by decide +kernel
theorem d9_19 : decode prog_138_method_2_code 19 = .ok (.iconst 1, 1) := by decide +kernel
theorem d9_20 : decode prog_138_method_2_code 20 = .ok (.isub, 1) := by decide +kernel
theorem d9_21 : decode prog_138_method_2_code 21 = .ok (.putfield 55, 3) := by decide +kernel
theorem d9_24 : decode prog_138_method_2_code 24 = .ok (.goto (-24), 3) := by decide +kernel
theorem d9_27 : decode prog_138_method_2_code 27 = .ok (.aload_n 0, 1) := by decide +kernel
theorem d9_28 : decode prog_138_method_2_code 28 = .ok (.iconst 0, 1) := by decide +kernel
theorem d9_29 : decode prog_138_method_2_code 29 = .ok (.invokevirtual 58, 3) := by decide +kernel
theorem d9_32 : decode prog_138_method_2_code 32 = .ok (.return_, 1) := by decide +kernel
theorem d14_0 : decode prog_138_method_4_code 0 = .ok (.aload_n 0, 1) := by decide +kernel
theorem d14_1 : decode prog_138_method_4_code 1 = .ok (.getfield 26, 3) := by decide +kernel
theorem d14_4 : decode prog_138_method_4_code 4 = .ok (.iload_n 1, 1) := by decide +kernel
theorem d14_5 : decode prog_138_method_4_code 5 = .ok (.iaload, 1) := by decide +kernel
theorem d14_6 : decode prog_138_method_4_code 6 = .ok (.istore_n 2, 1) := by decide +kernel
theorem d14_7 : decode prog_138_method_4_code 7 = .ok (.iload_n 2, 1) := by decide +kernel
theorem d14_8 : decode prog_138_method_4_code 8 = .ok (.aload_n 0, 1) := by decide +kernel
theorem d14_9 : decode prog_138_method_4_code 9 = .ok (.getfield 7, 3) := by decide +kernel
theorem d14_12 : decode prog_138_method_4_code 12 = .ok (.if_icmp .gt 17, 3) := by decide +kernel
theorem d14_15 : decode prog_138_method_4_code 15 = .ok (.aload_n 0, 1) := by decide +kernel
theorem d14_16 : decode prog_138_method_4_code 16 = .ok (.getfield 48, 3) := by decide +kernel
theorem d14_19 : decode prog_138_method_4_code 19 = .ok (.iload_n 2, 1) := by decide +kernel
theorem d14_20 : decode prog_138_method_4_code 20 = .ok (.baload, 1) := by decide +kernel
theorem d14_21 : decode prog_138_method_4_code 21 = .ok (.iconst 1, 1) := by decide +kernel
theorem d14_22 : decode prog_138_method_4_code 22 = .ok (.if_icmp .ne 7, 3) := by decide +kernel
theorem d14_25 : decode prog_138_method_4_code 25 = .ok (.iconst 1, 1) := by decide +kernel
theorem d14_26 : decode prog_138_method_4_code 26 = .ok (.goto 4, 3) := by decide +kernel
theorem d14_29 : decode prog_138_method_4_code 29 = .ok (.iconst 0, 1) := by decide +kernel
theorem d14_30 : decode prog_138_method_4_code 30 = .ok (.ireturn, 1) := by decide +kernel
theorem d15_0 : decode prog_138_method_5_code 0 = .ok (.aload_n 0, 1) := by decide +kernel
theorem d15_1 : decode prog_138_method_5_code 1 = .ok (.getfield 52, 3) := by decide +kernel
theorem d15_4 : decode prog_138_method_5_code 4 = .ok (.iconst 0, 1) := by decide +kernel
theorem d15_5 : decode prog_138_method_5_code 5 = .ok (.aload_n 1, 1) := by decide +kernel
theorem d15_6 : decode prog_138_method_5_code 6 = .ok (.iload_n 2, 1) := by decide +kernel
theorem d15_7 : decode prog_138_method_5_code 7 = .ok (.aload_n 0, 1) := by decide +kernel
theorem d15_8 : decode prog_138_method_5_code 8 = .ok (.getfield 55, 3) := by decide +kernel
theorem d15_11 : decode prog_138_method_5_code 11 = .ok (.invokestatic 65, 3) := by decide +kernel
theorem d15_14 : decode prog_138_method_5_code 14 = .ok (.iload_n 2, 1) := by decide +kernel
theorem d15_15 : decode prog_138_method_5_code 15 = .ok (.aload_n 0, 1) := by decide +kernel
theorem d15_16 : decode prog_138_method_5_code 16 = .ok (.getfield 55, 3) := by decide +kernel
theorem d15_19 : decode prog_138_method_5_code 19 = .ok (.iadd, 1) := by decide +kernel
theorem d15_20 : decode prog_138_method_5_code 20 = .ok (.ireturn, 1) := by decide +kernel
theorem d2_0 : decode prog_138_method_1_code 0 = .ok (.aload_n 0, 1) := by decide +kernel
theorem d2_1 : decode prog_138_method_1_code 1 = .ok (.invokespecial 1, 3) := by decide +kernel
theorem d2_4 : decode prog_138_method_1_code 4 = .ok (.aload_n 0, 1) := by decide +kernel
theorem d2_5 : decode prog_138_method_1_code 5 = .ok (.iconst (-1), 1) := by decide +kernel
theorem d2_6 : decode prog_138_method_1_code 6 = .ok (.putfield 7, 3) := by decide +kernel
theorem d2_9 : decode prog_138_method_1_code 9 = .ok (.aload_n 0, 1) := by decide +kernel
theorem d2_10 : decode prog_138_method_1_code 10 = .ok (.iload_n 1, 1) := by decide +kernel
theorem d2_11 : decode prog_138_method_1_code 11 = .ok (.putfield 13, 3) := by decide +kernel
theorem d2_14 : decode prog_138_method_1_code 14 = .ok (.aload_n 0, 1) := by decide +kernel
theorem d2_15 : decode prog_138_method_1_code 15 = .ok (.aload_n 2, 1) := by decide +kernel
theorem d2_16 : decode prog_138_method_1_code 16 = .ok (.arraylength, 1) := by decide +kernel
theorem d2_17 : decode prog_138_method_1_code 17 = .ok (.newarray .int, 2) := by decide +kernel
theorem d2_19 : decode prog_138_method_1_code 19 = .ok (.putfield 16, 3) := by decide +kernel
theorem d2_22 : decode prog_138_method_1_code 22 = .ok (.aload_n 0, 1) := by decide +kernel
theorem d2_23 : decode prog_138_method_1_code 23 = .ok (.aload_n 2, 1) := by decide +kernel
theorem d2_24 : decode prog_138_method_1_code 24 = .ok (.arraylength, 1) := by decide +kernel
theorem d2_25 : decode prog_138_method_1_code 25 = .ok (.newarray .int, 2) := by decide +kernel
theorem d2_27 : decode prog_138_method_1_code 27 = .ok (.putfield 20, 3) := by decide +kernel
theorem d2_30 : decode prog_138_method_1_code 30 = .ok (.aload_n 0, 1) := by decide +kernel
theorem d2_31 : decode prog_138_method_1_code 31 = .ok (.aload_n 2, 1) := by decide +kernel
theorem d2_32 : decode prog_138_method_1_code 32 = .ok (.arraylength, 1) := by decide +kernel
theorem d2_33 : decode prog_138_method_1_code 33 = .ok (.newarray .int, 2) := by decide +kernel
theorem d2_35 : decode prog_138_method_1_code 35 = .ok (.putfield 23, 3) := by decide +kernel
theorem d2_38 : decode prog_138_method_1_code 38 = .ok (.aload_n 0, 1) := by decide +kernel
theorem d2_39 : decode prog_138_method_1_code 39 = .ok (.aload_n 2, 1) := by decide +kernel
theorem d2_40 : decode prog_138_method_1_code 40 = .ok (.arraylength, 1) := by decide +kernel
theorem d2_41 : decode prog_138_method_1_code 41 = .ok (.newarray .int, 2) := by decide +kernel
theorem d2_43 : decode prog_138_method_1_code 43 = .ok (.putfield 26, 3) := by decide +kernel
theorem d2_46 : decode prog_138_method_1_code 46 = .ok (.aload_n 0, 1) := by decide +kernel
theorem d2_47 : decode prog_138_method_1_code 47 = .ok (.new 29, 3) := by decide +kernel
theorem d2_50 : decode prog_138_method_1_code 50 = .ok (.dup, 1) := by decide +kernel
theorem d2_51 : decode prog_138_method_1_code 51 = .ok (.iload_n 1, 1) := by decide +kernel
theorem d2_52 : decode prog_138_method_1_code 52 = .ok (.invokespecial 31, 3) := by decide +kernel
theorem d2_55 : decode prog_138_method_1_code 55 = .ok (.putfield 34, 3) := by decide +kernel
theorem d2_58 : decode prog_138_method_1_code 58 = .ok (.aload_n 2, 1) := by decide +kernel
theorem d2_59 : decode prog_138_method_1_code 59 = .ok (.arraylength, 1) := by decide +kernel
theorem d2_60 : decode prog_138_method_1_code 60 = .ok (.newarray .boolean, 2) := by decide +kernel
theorem d2_62 : decode prog_138_method_1_code 62 = .ok (.astore 5, 2) := by decide +kernel
theorem d2_64 : decode prog_138_method_1_code 64 = .ok (.iconst 0, 1) := by decide +kernel
theorem d2_65 : decode prog_138_method_1_code 65 = .ok (.istore 6, 2) := by decide +kernel
theorem d2_67 : decode prog_138_method_1_code 67 = .ok (.iload 6, 2) := by decide +kernel
theorem d2_69 : decode prog_138_method_1_code 69 = .ok (.aload_n 2, 1) := by decide +kernel
theorem d2_70 : decode prog_138_method_1_code 70 = .ok (.arraylength, 1) := by decide +kernel
theorem d2_71 : decode prog_138_method_1_code 71 = .ok (.if_icmp .ge 29, 3) := by decide +kernel
theorem d2_74 : decode prog_138_method_1_code 74 = .ok (.aload 5, 2) := by decide +kernel
theorem d2_76 : decode prog_138_method_1_code 76 = .ok (.iload 6, 2) := by decide +kernel
theorem d2_78 : decode prog_138_method_1_code 78 = .ok (.aload_n 0, 1) := by decide +kernel
theorem d2_79 : decode prog_138_method_1_code 79 = .ok (.getfield 34, 3) := by decide +kernel
theorem d2_82 : decode prog_138_method_1_code 82 = .ok (.aload_n 2, 1) := by decide +kernel
theorem d2_83 : decode prog_138_method_1_code 83 = .ok (.iload 6, 2) := by decide +kernel
theorem d2_85 : decode prog_138_method_1_code 85 = .ok (.iaload, 1) := by decide +kernel
theorem d2_86 : decode prog_138_method_1_code 86 = .ok (.aload_n 3, 1) := by decide +kernel
theorem d2_87 : decode prog_138_method_1_code 87 = .ok (.iload 6, 2) := by decide +kernel
theorem d2_89 : decode prog_138_method_1_code 89 = .ok (.iaload, 1) := by decide +kernel
theorem d2_90 : decode prog_138_method_1_code 90 = .ok (.invokevirtual 38, 3) := by decide +kernel
theorem d2_93 : decode prog_138_method_1_code 93 = .ok (.bastore, 1) := by decide +kernel
theorem d2_94 : decode prog_138_method_1_code 94 = .ok (.iinc 6 1, 3) := by decide +kernel
theorem d2_97 : decode prog_138_method_1_code 97 = .ok (.goto (-30), 3) := by decide +kernel
theorem d2_100 : decode prog_138_method_1_code 100 = .ok (.iconst 0, 1) := by decide +kernel
theorem d2_101 : decode prog_138_method_1_code 101 = .ok (.istore 6, 2) := by decide +kernel
theorem d2_103 : decode prog_138_method_1_code 103 = .ok (.iload 6, 2) := by decide +kernel
theorem d2_105 : decode prog_138_method_1_code 105 = .ok (.iload_n 1, 1) := by decide +kernel
theorem d2_106 : decode prog_138_method_1_code 106 = .ok (.iconst 1, 1) := by decide +kernel
theorem d2_107 : decode prog_138_method_1_code 107 = .ok (.isub, 1) := by decide +kernel
theorem d2_108 : decode prog_138_method_1_code 108 = .ok (.if_icmp .ge 16, 3) := by decide +kernel
theorem d2_111 : decode prog_138_method_1_code 111 = .ok (.aload_n 0, 1) := by decide +kernel
theorem d2_112 : decode prog_138_method_1_code 112 = .ok (.getfield 34, 3) := by decide +kernel
theorem d2_115 : decode prog_138_method_1_code 115 = .ok (.invokevirtual 42, 3) := by decide +kernel
theorem d2_118 : decode prog_138_method_1_code 118 = .ok (.iinc 6 1, 3) := by decide +kernel
theorem d2_121 : decode prog_138_method_1_code 121 = .ok (.goto (-18), 3) := by decide +kernel
theorem d2_124 : decode prog_138_method_1_code 124 = .ok (.aload_n 0, 1) := by decide +kernel
theorem d2_125 : decode prog_138_method_1_code 125 = .ok (.aload_n 2, 1) := by decide +kernel
theorem d2_126 : decode prog_138_method_1_code 126 = .ok (.arraylength, 1) := by decide +kernel
theorem d2_127 : decode prog_138_method_1_code 127 = .ok (.iload_n 1, 1) := by decide +kernel
theorem d2_128 : decode prog_138_method_1_code 128 = .ok (.iconst 1, 1) := by decide +kernel
theorem d2_129 : decode prog_138_method_1_code 129 = .ok (.isub, 1) := by decide +kernel
theorem d2_130 : decode prog_138_method_1_code 130 = .ok (.isub, 1) := by decide +kernel
theorem d2_131 : decode prog_138_method_1_code 131 = .ok (.putfield 45, 3) := by decide +kernel
theorem d2_134 : decode prog_138_method_1_code 134 = .ok (.iconst 0, 1) := by decide +kernel
theorem d2_135 : decode prog_138_method_1_code 135 = .ok (.istore 6, 2) := by decide +kernel
theorem d2_137 : decode prog_138_method_1_code 137 = .ok (.aload_n 0, 1) := by decide +kernel
theorem d2_138 : decode prog_138_method_1_code 138 = .ok (.getfield 45, 3) := by decide +kernel
theorem d2_141 : decode prog_138_method_1_code 141 = .ok (.istore 7, 2) := by decide +kernel
theorem d2_143 : decode prog_138_method_1_code 143 = .ok (.iconst 0, 1) := by decide +kernel
theorem d2_144 : decode prog_138_method_1_code 144 = .ok (.istore 8, 2) := by decide +kernel
theorem d2_146 : decode prog_138_method_1_code 146 = .ok (.iload 8, 2) := by decide +kernel
theorem d2_148 : decode prog_138_method_1_code 148 = .ok (.aload_n 2, 1) := by decide +kernel
theorem d2_149 : decode prog_138_method_1_code 149 = .ok (.arraylength, 1) := by decide +kernel
theorem d2_150 : decode prog_138_method_1_code 150 = .ok (.if_icmp .ge 75, 3) := by decide +kernel
theorem d2_153 : decode prog_138_method_1_code 153 = .ok (.aload 5, 2) := by decide +kernel
theorem d2_155 : decode prog_138_method_1_code 155 = .ok (.iload 8, 2) := by decide +kernel
theorem d2_157 : decode prog_138_method_1_code 157 = .ok (.baload, 1) := by decide +kernel
theorem d2_158 : decode prog_138_method_1_code 158 = .ok (.ifCond .eq 11, 3) := by decide +kernel
theorem d2_161 : decode prog_138_method_1_code 161 = .ok (.iload 7, 2) := by decide +kernel
theorem d2_163 : decode prog_138_method_1_code 163 = .ok (.iinc 7 1, 3) := by decide +kernel
theorem d2_166 : decode prog_138_method_1_code 166 = .ok (.goto 8, 3) := by decide +kernel
theorem d2_169 : decode prog_138_method_1_code 169 = .ok (.iload 6, 2) := by decide +kernel
theorem d2_171 : decode prog_138_method_1_code 171 = .ok (.iinc 6 1, 3) := by decide +kernel
theorem d2_174 : decode prog_138_method_1_code 174 = .ok (.istore 9, 2) := by decide +kernel
theorem d2_176 : decode prog_138_method_1_code 176 = .ok (.aload_n 0, 1) := by decide +kernel
theorem d2_177 : decode prog_138_method_1_code 177 = .ok (.getfield 16, 3) := by decide +kernel
theorem d2_180 : decode prog_138_method_1_code 180 = .ok (.iload 9, 2) := by decide +kernel
theorem d2_182 : decode prog_138_method_1_code 182 = .ok (.aload_n 2, 1) := by decide +kernel
theorem d2_183 : decode prog_138_method_1_code 183 = .ok (.iload 8, 2) := by decide +kernel
theorem d2_185 : decode prog_138_method_1_code 185 = .ok (.iaload, 1) := by decide +kernel
theorem d2_186 : decode prog_138_method_1_code 186 = .ok (.iastore, 1) := by decide +kernel
theorem d2_187 : decode prog_138_method_1_code 187 = .ok (.aload_n 0, 1) := by decide +kernel
theorem d2_188 : decode prog_138_method_1_code 188 = .ok (.getfield 20, 3) := by decide +kernel
theorem d2_191 : decode prog_138_method_1_code 191 = .ok (.iload 9, 2) := by decide +kernel
theorem d2_193 : decode prog_138_method_1_code 193 = .ok (.aload_n 3, 1) := by decide +kernel
theorem d2_194 : decode prog_138_method_1_code 194 = .ok (.iload 8, 2) := by decide +kernel
theorem d2_196 : decode prog_138_method_1_code 196 = .ok (.iaload, 1) := by decide +kernel
theorem d2_197 : decode prog_138_method_1_code 197 = .ok (.iastore, 1) := by decide +kernel
theorem d2_198 : decode prog_138_method_1_code 198 = .ok (.aload_n 0, 1) := by decide +kernel
theorem d2_199 : decode prog_138_method_1_code 199 = .ok (.getfield 23, 3) := by decide +kernel
theorem d2_202 : decode prog_138_method_1_code 202 = .ok (.iload 9, 2) := by decide +kernel
theorem d2_204 : decode prog_138_method_1_code 204 = .ok (.aload 4, 2) := by decide +kernel
theorem d2_206 : decode prog_138_method_1_code 206 = .ok (.iload 8, 2) := by decide +kernel
theorem d2_208 : decode prog_138_method_1_code 208 = .ok (.iaload, 1) := by decide +kernel
theorem d2_209 : decode prog_138_method_1_code 209 = .ok (.iastore, 1) := by decide +kernel
theorem d2_210 : decode prog_138_method_1_code 210 = .ok (.aload_n 0, 1) := by decide +kernel
theorem d2_211 : decode prog_138_method_1_code 211 = .ok (.getfield 26, 3) := by decide +kernel
theorem d2_214 : decode prog_138_method_1_code 214 = .ok (.iload 8, 2) := by decide +kernel
theorem d2_216 : decode prog_138_method_1_code 216 = .ok (.iload 9, 2) := by decide +kernel
theorem d2_218 : decode prog_138_method_1_code 218 = .ok (.iastore, 1) := by decide +kernel
theorem d2_219 : decode prog_138_method_1_code 219 = .ok (.iinc 8 1, 3) := by decide +kernel
theorem d2_222 : decode prog_138_method_1_code 222 = .ok (.goto (-76), 3) := by decide +kernel
theorem d2_225 : decode prog_138_method_1_code 225 = .ok (.aload_n 0, 1) := by decide +kernel
theorem d2_226 : decode prog_138_method_1_code 226 = .ok (.aload_n 2, 1) := by decide +kernel
theorem d2_227 : decode prog_138_method_1_code 227 = .ok (.arraylength, 1) := by decide +kernel
theorem d2_228 : decode prog_138_method_1_code 228 = .ok (.newarray .byte, 2) := by decide +kernel
theorem d2_230 : decode prog_138_method_1_code 230 = .ok (.putfield 48, 3) := by decide +kernel
theorem d2_233 : decode prog_138_method_1_code 233 = .ok (.aload_n 0, 1) := by decide +kernel
theorem d2_234 : decode prog_138_method_1_code 234 = .ok (.iload_n 1, 1) := by decide +kernel
theorem d2_235 : decode prog_138_method_1_code 235 = .ok (.iconst 1, 1) := by decide +kernel
theorem d2_236 : decode prog_138_method_1_code 236 = .ok (.isub, 1) := by decide +kernel
theorem d2_237 : decode prog_138_method_1_code 237 = .ok (.newarray .int, 2) := by decide +kernel
theorem d2_239 : decode prog_138_method_1_code 239 = .ok (.putfield 52, 3) := by decide +kernel
theorem d2_242 : decode prog_138_method_1_code 242 = .ok (.return_, 1) := by decide +kernel
abbrev RT : Room := { frames := 2, cells := 0, slots := 0, locals := 31 }
abbrev RX : Room := { frames := 3, cells := 0, slots := 0, locals := 47 }
abbrev RF : Room := { frames := 3, cells := 0, slots := 0, locals := 45 }
abbrev RCp : Room := { frames := 1, cells := 0, slots := 0, locals := 40 }
abbrev RCt : Room := { frames := 2, cells := 11, slots := 38, locals := 33 }
theorem mem4 {c A B D P f pa sa ha CH TK : Nat} (h : Heap) : ∀ x ∈ [f, pa, sa, ha], x ∈ [c, A, B, D, P, f, pa, sa, ha, CH, TK] ∨ h.size ≤ x := by
  intro x hx
  refine Or.inl ?_
  simp only [List.mem_cons, List.not_mem_nil, or_false] at hx ⊢
  omega
theorem t2 : (2 : Int32).toInt = 2 := by decide
theorem t0 : (0 : Int32).toInt = 0 := by decide
theorem dec_i {d : Nat} (h : d < 2 ^ 31) : (Int32.ofNat d - (1 : Int32)).toInt = (d : Int) - 1 := by
  have q1 := c_isub (Int32.ofNat d) 1; have q2 := rng32 (Int32.ofNat d - 1); have q3 : (1 : Int32).toInt = 1 := by decide
  rw [nat_i h] at q1; omega
theorem nz_i {r : Nat} (h : r = 0 ∨ r = 1) (h0 : ¬ r = 0) : Int32.ofNat r = (1 : Int32) := by
  rcases h with rfl | rfl
  · exact absurd rfl h0
  · rfl
def QT (Z : State) (h0 : Heap) (c A B D P f pa sa ha CH TK : Nat) (la lb le lp : List Nat) (ls : Nat) (S : CTV) (d1 : Nat) (v : Option Value) (h : Heap) : Prop := v = none ∧ Keep h0 h [c, A, B, D, P, f, pa, sa, ha, CH, TK] ∧ Ct Z h c A B D P f pa sa ha CH TK la lb le lp ls S.1 S.2.1 S.2.2.1 S.2.2.2 d1
def QL (Z : State) (h0 : Heap) (c A B D P f pa sa ha CH TK : Nat) (la lb le lp : List Nat) (ls : Nat) (r : Nat) (u : UFS) (ch tk : List Nat) (tc d1 : Nat) (v : Option Value) (h : Heap) : Prop := v = some (.int (Int32.ofNat r)) ∧ Keep h0 h [c, A, B, D, P, f, pa, sa, ha, CH, TK] ∧ Ct Z h c A B D P f pa sa ha CH TK la lb le lp ls u ch tk tc d1
set_option maxRecDepth 65536 in
set_option maxHeartbeats 4000000 in
theorem loopT (Z : State) (a0 : Array Value) (hw : ∀ d ∈ tables_1, d.before a0 Z = true) (E : Noise) (C : Cx E Z "com/example/joinweave/joinweave/graph/CoreTrees" "takeFrom" prog_138_method_6_code 3 none) (c A B D P f pa sa ha CH TK : Nat) (la lb le lp : List Nat) (ls : Nat) (d1 : Nat) (p : Int32) (S' : CTV) (e : Nat) (h0 : Heap) (n0 : Nat) (ge : n0 ≤ c) : ∀ (g nx : Nat) (u : UFS) (ch tk : List Nat) (tc : Nat) (h : Heap), takeF la lb le g (u, ch, tk, tc) nx = some (S', e) → Ct Z h c A B D P f pa sa ha CH TK la lb le lp ls u ch tk tc d1 → Keep h0 h [c, A, B, D, P, f, pa, sa, ha, CH, TK] → Go E RT n0 (QT Z h0 c A B D P f pa sa ha CH TK la lb le lp ls S' e) h 0 0 2 #[.val (.ref c), .val (.int p), .val (.int (Int32.ofNat nx))] [] := by
  intro g
  induction g with
  | zero => intro nx u ch tk tc h hr; cases hr
  | succ g ih =>
    intro nx u ch tk tc h hr T K
    have ord := T.2.2.2.2.2.2.2.2
    have smA := An.small T.2.1
    unfold takeF at hr
    dsimp only at hr
    by_cases c0 : tc < 2
    · rw [if_pos c0] at hr
      cases ha1 : la[nx]? with
      | none => rw [ha1] at hr; cases hr
      | some xa =>
        rw [ha1] at hr
        dsimp only at hr
        cases hb1 : lb[nx]? with
        | none => rw [hb1] at hr; cases hr
        | some xb =>
          rw [hb1] at hr
          dsimp only at hr
          cases hu : unionF u xa xb with
          | none => rw [hu] at hr; cases hr
          | some t =>
            rw [hu] at hr
            dsimp only at hr
            obtain ⟨r, u2⟩ := t
            have h01 := unionF_01 hu
            have hnl := (List.getElem?_eq_some_iff.mp ha1).1
            have hinc : Int32.ofNat nx + (1 : Int32) = Int32.ofNat (nx + 1) := i_add nx 1
            refine go_aloadN C (pc' := 3) d10_2 rfl rfl rfl ?_
            refine go_getF C (pc' := 6) (own_w hw (i := 75) rfl) T.1.2.2.2.2.2.2.2.2.2.2.2 d10_3 rfl ?_
            refine go_aloadN C (pc' := 7) d10_6 rfl rfl rfl ?_
            refine go_getF C (pc' := 10) (own_w hw (i := 16) rfl) T.1.2.1 d10_7 rfl ?_
            refine go_iconst C (pc' := 11) (z := 1) d10_10 rfl rfl ?_
            refine go_isub C (pc' := 12) d10_11 rfl ?_
            show Go E RT n0 (QT Z h0 c A B D P f pa sa ha CH TK la lb le lp ls S' e) h 0 0 12 #[.val (.ref c), .val (.int p), .val (.int (Int32.ofNat nx))] [(.int (2 : Int32)), (.int (Int32.ofNat tc))]
            refine go_icN C (pc' := 15) d10_12 (Bool.eq_false_iff.mpr fun q => by have q2 : (2 : Int32).toInt ≤ (Int32.ofNat tc).toInt := (rel_holds .ge _ _).mp q; rw [nat_i (by omega)] at q2; have q3 := t2; omega) rfl ?_
            refine go_aloadN C (pc' := 16) d10_15 rfl rfl rfl ?_
            refine go_getF C (pc' := 19) (own_w hw (i := 43) rfl) T.1.2.2.2.2.2.2.2.1 d10_16 rfl ?_
            refine go_aloadN C (pc' := 20) d10_19 rfl rfl rfl ?_
            refine go_getF C (pc' := 23) (own_w hw (i := 18) rfl) T.1.2.2.1 d10_20 rfl ?_
            refine go_iloadN C (pc' := 24) d10_23 rfl rfl ?_
            refine go_nload C (pc' := 25) (T.2.1) ha1 d10_24 rfl ?_
            refine go_aloadN C (pc' := 26) d10_25 rfl rfl rfl ?_
            refine go_getF C (pc' := 29) (own_w hw (i := 20) rfl) T.1.2.2.2.1 d10_26 rfl ?_
            refine go_iloadN C (pc' := 30) d10_29 rfl rfl ?_
            refine go_nload C (pc' := 31) (T.2.2.1) hb1 d10_30 rfl ?_
            refine go_callV C (pc' := 34) (k' := 0) (n' := 0) (argsL := [(.int (Int32.ofNat xa)), (.int (Int32.ofNat xb))]) (rest := []) (own_w hw (i := 46) rfl) (own_w hw (i := 47) rfl) (own_w hw (i := 49) rfl) (own_w hw (i := 48) rfl) (own_w hw (i := 28) rfl) (own_w hw (i := 50) rfl) (T.2.2.2.2.2.2.2.1.1) (rmU Z a0 hw f pa sa ha u u2 xa xb r h n0 ⟨by omega, by omega, by omega, by omega⟩ (T.2.2.2.2.2.2.2.1) hu) d10_31 rfl rfl (lenOf pd5 rfl) (by decide) (by decide) 0 rfl (by decide) rfl rfl (by decide) (by decide) rfl ?_
            rintro _ h1_ ⟨rfl, Ku1_, U1_⟩
            have T1_ := T.wF Ku1_ U1_
            have K1_ := K.trans Ku1_ (mem4 _)
            show Go E RT n0 (QT Z h0 c A B D P f pa sa ha CH TK la lb le lp ls S' e) h1_ 0 0 34 #[.val (.ref c), .val (.int p), .val (.int (Int32.ofNat nx))] [(.int (Int32.ofNat r))]
            dsimp only at hr
            by_cases c1 : r = 0
            · rw [if_pos c1] at hr
              by_cases c2 : nx < ch.length
              · rw [if_pos c2] at hr
                subst c1
                refine go_ifY C (pc' := 69) d10_34 rfl (by decide) (by decide) ?_
                refine go_aloadN C (pc' := 70) d10_69 rfl rfl rfl ?_
                refine go_getF C (pc' := 73) (own_w hw (i := 66) rfl) T1_.1.2.2.2.2.2.2.2.2.1 d10_70 rfl ?_
                refine go_iloadN C (pc' := 74) d10_73 rfl rfl ?_
                refine go_iconst C (pc' := 75) (z := 2) d10_74 rfl rfl ?_
                refine go_nstoreB (v := 2) C (pc' := 76) (T1_.2.2.2.2.2.1) c2 (by decide) (by omega) d10_75 rfl ?_
                intro h2_ W2_
                have T2_ := T1_.wCh W2_
                have K2_ := K1_.wr W2_ (Or.inl (List.mem_of_getElem? (i := 9) rfl))
                refine go_iinc C (pc' := 79) (z := 1) (Ls' := #[.val (.ref c), .val (.int p), .val (.int (Int32.ofNat (nx + 1)))]) d10_76 rfl rfl (by rw [hinc]; rfl) rfl ?_
                refine go_goto C (pc' := 2) d10_79 (by decide) (by decide) ?_
                exact ih (nx + 1) _ _ _ _ _ hr T2_ K2_
              · rw [if_neg c2] at hr; cases hr
            · rw [if_neg c1] at hr
              cases he1 : le[nx]? with
              | none => rw [he1] at hr; cases hr
              | some xe =>
                rw [he1] at hr
                dsimp only at hr
                by_cases c2 : nx < ch.length ∧ tc < tk.length
                · rw [if_pos c2] at hr
                  rw [nz_i h01 c1]
                  refine go_ifN C (pc' := 37) d10_34 rfl rfl ?_
                  refine go_aloadN C (pc' := 38) d10_37 rfl rfl rfl ?_
                  refine go_getF C (pc' := 41) (own_w hw (i := 66) rfl) T1_.1.2.2.2.2.2.2.2.2.1 d10_38 rfl ?_
                  refine go_iloadN C (pc' := 42) d10_41 rfl rfl ?_
                  refine go_iconst C (pc' := 43) (z := 1) d10_42 rfl rfl ?_
                  refine go_nstoreB (v := 1) C (pc' := 44) (T1_.2.2.2.2.2.1) c2.1 (by decide) (by omega) d10_43 rfl ?_
                  intro h3_ W3_
                  have T3_ := T1_.wCh W3_
                  have K3_ := K1_.wr W3_ (Or.inl (List.mem_of_getElem? (i := 9) rfl))
                  refine go_aloadN C (pc' := 45) d10_44 rfl rfl rfl ?_
                  refine go_getF C (pc' := 48) (own_w hw (i := 68) rfl) T3_.1.2.2.2.2.2.2.2.2.2.2.1 d10_45 rfl ?_
                  refine go_aloadN C (pc' := 49) d10_48 rfl rfl rfl ?_
                  refine go_dup C (pc' := 50) d10_49 rfl rfl ?_
                  refine go_getF C (pc' := 53) (own_w hw (i := 75) rfl) T3_.1.2.2.2.2.2.2.2.2.2.2.2 d10_50 rfl ?_
                  refine go_dupX1 C (pc' := 54) d10_53 rfl rfl rfl ?_
                  refine go_iconst C (pc' := 55) (z := 1) d10_54 rfl rfl ?_
                  refine go_iadd C (pc' := 56) d10_55 rfl ?_
                  rw [show Int32.ofNat tc + (1 : Int32) = Int32.ofNat (tc + 1) from i_add tc 1]
                  refine go_putF C (pc' := 59) (ty := .int) (own_w hw (i := 75) rfl) (T3_.1.2.2.2.2.2.2.2.2.2.2.2) T3_.1.1 (Or.inl (own_w hw (i := 76) rfl)) (own_w hw (i := 6) rfl) (by decide) rfl rfl (by omega) d10_56 rfl ?_
                  intro h4_ W4_
                  have T4_ := T3_.wTc hw W4_
                  have K4_ := K3_.wr W4_ (Or.inl (List.mem_of_getElem? (i := 0) rfl))
                  refine go_aloadN C (pc' := 60) d10_59 rfl rfl rfl ?_
                  refine go_getF C (pc' := 63) (own_w hw (i := 22) rfl) T4_.1.2.2.2.2.1 d10_60 rfl ?_
                  refine go_iloadN C (pc' := 64) d10_63 rfl rfl ?_
                  refine go_nload C (pc' := 65) (T4_.2.2.2.1) he1 d10_64 rfl ?_
                  refine go_nstore C (pc' := 66) (T4_.2.2.2.2.2.2.1) c2.2 (by omega) d10_65 rfl ?_
                  intro h5_ W5_
                  have T5_ := T4_.wTk W5_
                  have K5_ := K4_.wr W5_ (Or.inl (List.mem_of_getElem? (i := 10) rfl))
                  refine go_goto C (pc' := 76) d10_66 (by decide) (by decide) ?_
                  refine go_iinc C (pc' := 79) (z := 1) (Ls' := #[.val (.ref c), .val (.int p), .val (.int (Int32.ofNat (nx + 1)))]) d10_76 rfl rfl (by rw [hinc]; rfl) rfl ?_
                  refine go_goto C (pc' := 2) d10_79 (by decide) (by decide) ?_
                  exact ih (nx + 1) _ _ _ _ _ hr T5_ K5_
                · rw [if_neg c2] at hr; cases hr
    · rw [if_neg c0] at hr
      by_cases c1 : tc < 100
      · rw [if_pos c1] at hr
        obtain ⟨hS, hE⟩ := Prod.mk.inj (Option.some.inj hr)
        refine go_aloadN C (pc' := 3) d10_2 rfl rfl rfl ?_
        refine go_getF C (pc' := 6) (own_w hw (i := 75) rfl) T.1.2.2.2.2.2.2.2.2.2.2.2 d10_3 rfl ?_
        refine go_aloadN C (pc' := 7) d10_6 rfl rfl rfl ?_
        refine go_getF C (pc' := 10) (own_w hw (i := 16) rfl) T.1.2.1 d10_7 rfl ?_
        refine go_iconst C (pc' := 11) (z := 1) d10_10 rfl rfl ?_
        refine go_isub C (pc' := 12) d10_11 rfl ?_
        show Go E RT n0 (QT Z h0 c A B D P f pa sa ha CH TK la lb le lp ls S' e) h 0 0 12 #[.val (.ref c), .val (.int p), .val (.int (Int32.ofNat nx))] [(.int (2 : Int32)), (.int (Int32.ofNat tc))]
        refine go_icY C (pc' := 82) d10_12 ((rel_holds .ge _ _).mpr (by show (2 : Int32).toInt ≤ (Int32.ofNat tc).toInt; rw [nat_i (by omega)]; have q3 := t2; omega)) (by decide) (by decide) ?_
        refine go_aloadN C (pc' := 83) d10_82 rfl rfl rfl ?_
        refine go_iloadN C (pc' := 84) d10_83 rfl rfl ?_
        refine go_iconst C (pc' := 85) (z := 1) d10_84 rfl rfl ?_
        refine go_isub C (pc' := 86) d10_85 rfl ?_
        refine go_putF C (pc' := 89) (ty := .int) (own_w hw (i := 14) rfl) (T.1.2.2.2.2.2.2.2.2.2.1) T.1.1 (Or.inl (own_w hw (i := 15) rfl)) (own_w hw (i := 6) rfl) (by decide) rfl rfl (by omega) d10_86 rfl ?_
        intro h1_ W1_
        have T1_ := T.wDe hw W1_
        have K1_ := K.wr W1_ (Or.inl (List.mem_of_getElem? (i := 0) rfl))
        refine go_retV C d10_89 (by decide) (by decide) ?_
        subst hS
        subst hE
        exact ⟨rfl, K1_, T1_⟩
      · rw [if_neg c1] at hr; cases hr
set_option maxRecDepth 65536 in
set_option maxHeartbeats 4000000 in
theorem rmT (Z : State) (a0 : Array Value) (hw : ∀ d ∈ tables_1, d.before a0 Z = true) (c A B D P f pa sa ha CH TK : Nat) (la lb le lp : List Nat) (ls : Nat) (u : UFS) (ch tk : List Nat) (tc d1 : Nat) (nx : Nat) (S' : CTV) (e : Nat) (h0 : Heap) (n0 : Nat) (ge : n0 ≤ c) (T : Ct Z h0 c A B D P f pa sa ha CH TK la lb le lp ls u ch tk tc d1) (hr : takeF la lb le 10 (u, ch, tk, tc) nx = some (S', e)) : Met Z (⟨"com/example/joinweave/joinweave/graph/CoreTrees", "takeFrom", "(I)V"⟩ : MethodName) prog_138_method_6_code 3 none RT #[.ref c, .int (Int32.ofNat nx)] h0 n0 (QT Z h0 c A B D P f pa sa ha CH TK la lb le lp ls S' e) := by
  refine met_of (Ls := #[.val (.ref c), .val (.int (Int32.ofNat nx)), .unset]) (plainFor_of_name pn1) (fun m => by first | (simp [entryFrame, mkF, argsToLocals, Value.category]; done) | rfl) ?_
  intro E (C : Cx E Z "com/example/joinweave/joinweave/graph/CoreTrees" "takeFrom" prog_138_method_6_code 3 none)
  refine go_iloadN C (pc' := 1) d10_0 rfl rfl ?_
  refine go_istoreN C (pc' := 2) (Ls' := #[.val (.ref c), .val (.int (Int32.ofNat nx)), .val (.int (Int32.ofNat nx))]) d10_1 rfl rfl ?_
  exact loopT Z a0 hw E C c A B D P f pa sa ha CH TK la lb le lp ls d1 _ S' e h0 n0 ge 10 nx u ch tk tc h0 hr T (Keep.refl _ _)
set_option maxRecDepth 65536 in
set_option maxHeartbeats 4000000 in
theorem loopV2 (Z : State) (a0 : Array Value) (hw : ∀ d ∈ tables_1, d.before a0 Z = true) (E : Noise) (C : Cx E Z "com/example/joinweave/joinweave/graph/CoreTrees" "canLeave" prog_138_method_7_code 5 (some .boolean)) (c A B D P f pa sa ha CH TK : Nat) (la lb le lp : List Nat) (ls : Nat) (ch tk : List Nat) (tc d1 : Nat) (p j r : Nat) (uf : UFS) (h0 : Heap) (n0 : Nat) (ge : n0 ≤ c) (hj : j < 100) (h01 : r = 0 ∨ r = 1) : ∀ (n : Nat) (u : UFS) (i : Nat) (h : Heap), undoN n u = some uf → i + n = j → Ct Z h c A B D P f pa sa ha CH TK la lb le lp ls u ch tk tc d1 → Keep h0 h [c, A, B, D, P, f, pa, sa, ha, CH, TK] → Go E RT n0 (QL Z h0 c A B D P f pa sa ha CH TK la lb le lp ls r uf ch tk tc d1) h 0 0 76 #[.val (.ref c), .val (.int (Int32.ofNat p)), .val (.int (Int32.ofNat j)), .val (.int (Int32.ofNat r)), .val (.int (Int32.ofNat i))] [] := by
  intro n
  induction n with
  | zero =>
    intro u i h hr hij T K
    cases hr
    refine go_iload C (pc' := 78) d12_76 rfl rfl ?_
    refine go_iloadN C (pc' := 79) d12_78 rfl rfl ?_
    refine go_icY C (pc' := 95) d12_79 ((rel_holds .ge _ _).mpr (by show (Int32.ofNat j).toInt ≤ (Int32.ofNat i).toInt; rw [nat_i (by omega), nat_i (by omega)]; omega)) (by decide) (by decide) ?_
    refine go_iloadN C (pc' := 96) d12_95 rfl rfl ?_
    refine go_retZ C d12_96 (by rcases h01 with rfl | rfl <;> decide) (by decide) (by decide) ?_
    exact ⟨rfl, K, T⟩
  | succ n ih =>
    intro u i h hr hij T K
    have ord := T.2.2.2.2.2.2.2.2
    unfold undoN at hr
    cases hu : undoF u with
    | none => rw [hu] at hr; cases hr
    | some u2 =>
      rw [hu] at hr
      dsimp only at hr
      have hinc : Int32.ofNat i + (1 : Int32) = Int32.ofNat (i + 1) := i_add i 1
      refine go_iload C (pc' := 78) d12_76 rfl rfl ?_
      refine go_iloadN C (pc' := 79) d12_78 rfl rfl ?_
      refine go_icN C (pc' := 82) d12_79 (Bool.eq_false_iff.mpr fun q => by have q2 : (Int32.ofNat j).toInt ≤ (Int32.ofNat i).toInt := (rel_holds .ge _ _).mp q; rw [nat_i (by omega), nat_i (by omega)] at q2; omega) rfl ?_
      refine go_aloadN C (pc' := 83) d12_82 rfl rfl rfl ?_
      refine go_getF C (pc' := 86) (own_w hw (i := 43) rfl) T.1.2.2.2.2.2.2.2.1 d12_83 rfl ?_
      refine go_callV C (pc' := 89) (k' := 0) (n' := 0) (argsL := []) (rest := []) (own_w hw (i := 58) rfl) (own_w hw (i := 59) rfl) (own_w hw (i := 61) rfl) (own_w hw (i := 60) rfl) (own_w hw (i := 28) rfl) (own_w hw (i := 62) rfl) (T.2.2.2.2.2.2.2.1.1) (rmD Z a0 hw f pa sa ha u u2 h n0 ⟨by omega, by omega, by omega, by omega⟩ (T.2.2.2.2.2.2.2.1) hu) d12_86 rfl rfl (lenOf pd2 rfl) (by decide) (by decide) 0 rfl (by decide) rfl rfl (by decide) (by decide) rfl ?_
      rintro _ h1_ ⟨rfl, Ku1_, U1_⟩
      have T1_ := T.wF Ku1_ U1_
      have K1_ := K.trans Ku1_ (mem4 _)
      show Go E RT n0 (QL Z h0 c A B D P f pa sa ha CH TK la lb le lp ls r uf ch tk tc d1) h1_ 0 0 89 #[.val (.ref c), .val (.int (Int32.ofNat p)), .val (.int (Int32.ofNat j)), .val (.int (Int32.ofNat r)), .val (.int (Int32.ofNat i))] []
      refine go_iinc C (pc' := 92) (z := 1) (Ls' := #[.val (.ref c), .val (.int (Int32.ofNat p)), .val (.int (Int32.ofNat j)), .val (.int (Int32.ofNat r)), .val (.int (Int32.ofNat (i + 1)))]) d12_89 rfl rfl (by rw [hinc]; rfl) rfl ?_
      refine go_goto C (pc' := 76) d12_92 (by decide) (by decide) ?_
      exact ih u2 (i + 1) _ hr (by omega) T1_ K1_
set_option maxRecDepth 65536 in
set_option maxHeartbeats 4000000 in
theorem loopV1 (Z : State) (a0 : Array Value) (hw : ∀ d ∈ tables_1, d.before a0 Z = true) (E : Noise) (C : Cx E Z "com/example/joinweave/joinweave/graph/CoreTrees" "canLeave" prog_138_method_7_code 5 (some .boolean)) (c A B D P f pa sa ha CH TK : Nat) (la lb le lp : List Nat) (ls : Nat) (ch tk : List Nat) (tc d1 : Nat) (p r : Nat) (u1 uf : UFS) (j1 : Nat) (h0 : Heap) (n0 : Nat) (ge : n0 ≤ c) (hle : u1.2.2.2 ≤ u1.1.length ∧ u1.1.length < 100 ∧ j1 < 100) (hun : undoN j1 u1 = some uf) (hrr : r = if u1.1.length - u1.2.2.2 = 1 then 1 else 0) : ∀ (g : Nat) (u : UFS) (i j : Nat) (h : Heap), joinF la lb g u i j = some (u1, j1) → Ct Z h c A B D P f pa sa ha CH TK la lb le lp ls u ch tk tc d1 → Keep h0 h [c, A, B, D, P, f, pa, sa, ha, CH, TK] → Go E RT n0 (QL Z h0 c A B D P f pa sa ha CH TK la lb le lp ls r uf ch tk tc d1) h 0 0 16 #[.val (.ref c), .val (.int (Int32.ofNat p)), .val (.int (Int32.ofNat j)), .val (.int (Int32.ofNat i)), .unset] [] := by
  intro g
  induction g with
  | zero => intro u i j h hr; cases hr
  | succ g ih =>
    intro u i j h hr T K
    have ord := T.2.2.2.2.2.2.2.2
    have smA := An.small T.2.1
    unfold joinF at hr
    by_cases c0 : i < la.length
    · rw [if_pos c0] at hr
      cases ha1 : la[i]? with
      | none => rw [ha1] at hr; cases hr
      | some xa =>
        rw [ha1] at hr
        dsimp only at hr
        cases hb1 : lb[i]? with
        | none => rw [hb1] at hr; cases hr
        | some xb =>
          rw [hb1] at hr
          dsimp only at hr
          cases hu : unionF u xa xb with
          | none => rw [hu] at hr; cases hr
          | some t =>
            rw [hu] at hr
            dsimp only at hr
            obtain ⟨r1, u2⟩ := t
            dsimp only at hr
            have h01 := unionF_01 hu
            have hinc : Int32.ofNat i + (1 : Int32) = Int32.ofNat (i + 1) := i_add i 1
            have hinj : Int32.ofNat j + (1 : Int32) = Int32.ofNat (j + 1) := i_add j 1
            refine go_iloadN C (pc' := 17) d12_16 rfl rfl ?_
            refine go_aloadN C (pc' := 18) d12_17 rfl rfl rfl ?_
            refine go_getF C (pc' := 21) (own_w hw (i := 18) rfl) T.1.2.2.1 d12_18 rfl ?_
            refine go_nalen C (pc' := 22) (T.2.1) d12_21 rfl ?_
            refine go_icN C (pc' := 25) d12_22 (Bool.eq_false_iff.mpr fun q => by have q2 : (Int32.ofNat la.length).toInt ≤ (Int32.ofNat i).toInt := (rel_holds .ge _ _).mp q; rw [nat_i (by omega), nat_i (by omega)] at q2; omega) rfl ?_
            refine go_aloadN C (pc' := 26) d12_25 rfl rfl rfl ?_
            refine go_getF C (pc' := 29) (own_w hw (i := 43) rfl) T.1.2.2.2.2.2.2.2.1 d12_26 rfl ?_
            refine go_aloadN C (pc' := 30) d12_29 rfl rfl rfl ?_
            refine go_getF C (pc' := 33) (own_w hw (i := 18) rfl) T.1.2.2.1 d12_30 rfl ?_
            refine go_iloadN C (pc' := 34) d12_33 rfl rfl ?_
            refine go_nload C (pc' := 35) (T.2.1) ha1 d12_34 rfl ?_
            refine go_aloadN C (pc' := 36) d12_35 rfl rfl rfl ?_
            refine go_getF C (pc' := 39) (own_w hw (i := 20) rfl) T.1.2.2.2.1 d12_36 rfl ?_
            refine go_iloadN C (pc' := 40) d12_39 rfl rfl ?_
            refine go_nload C (pc' := 41) (T.2.2.1) hb1 d12_40 rfl ?_
            refine go_callV C (pc' := 44) (k' := 0) (n' := 0) (argsL := [(.int (Int32.ofNat xa)), (.int (Int32.ofNat xb))]) (rest := []) (own_w hw (i := 46) rfl) (own_w hw (i := 47) rfl) (own_w hw (i := 49) rfl) (own_w hw (i := 48) rfl) (own_w hw (i := 28) rfl) (own_w hw (i := 50) rfl) (T.2.2.2.2.2.2.2.1.1) (rmU Z a0 hw f pa sa ha u u2 xa xb r1 h n0 ⟨by omega, by omega, by omega, by omega⟩ (T.2.2.2.2.2.2.2.1) hu) d12_41 rfl rfl (lenOf pd5 rfl) (by decide) (by decide) 0 rfl (by decide) rfl rfl (by decide) (by decide) rfl ?_
            rintro _ h1_ ⟨rfl, Ku1_, U1_⟩
            have T1_ := T.wF Ku1_ U1_
            have K1_ := K.trans Ku1_ (mem4 _)
            show Go E RT n0 (QL Z h0 c A B D P f pa sa ha CH TK la lb le lp ls r uf ch tk tc d1) h1_ 0 0 44 #[.val (.ref c), .val (.int (Int32.ofNat p)), .val (.int (Int32.ofNat j)), .val (.int (Int32.ofNat i)), .unset] [(.int (Int32.ofNat r1))]
            rcases h01 with rfl | rfl
            · skip
              refine go_ifY C (pc' := 50) d12_44 rfl (by decide) (by decide) ?_
              refine go_iinc C (pc' := 53) (z := 1) (Ls' := #[.val (.ref c), .val (.int (Int32.ofNat p)), .val (.int (Int32.ofNat j)), .val (.int (Int32.ofNat (i + 1))), .unset]) d12_50 rfl rfl (by rw [hinc]; rfl) rfl ?_
              refine go_goto C (pc' := 16) d12_53 (by decide) (by decide) ?_
              exact ih u2 (i + 1) j _ hr T1_ K1_
            · skip
              refine go_ifN C (pc' := 47) d12_44 rfl rfl ?_
              refine go_iinc C (pc' := 50) (z := 1) (Ls' := #[.val (.ref c), .val (.int (Int32.ofNat p)), .val (.int (Int32.ofNat (j + 1))), .val (.int (Int32.ofNat i)), .unset]) d12_47 rfl rfl (by rw [hinj]; rfl) rfl ?_
              refine go_iinc C (pc' := 53) (z := 1) (Ls' := #[.val (.ref c), .val (.int (Int32.ofNat p)), .val (.int (Int32.ofNat (j + 1))), .val (.int (Int32.ofNat (i + 1))), .unset]) d12_50 rfl rfl (by rw [hinc]; rfl) rfl ?_
              refine go_goto C (pc' := 16) d12_53 (by decide) (by decide) ?_
              exact ih u2 (i + 1) (j + 1) _ hr T1_ K1_
    · rw [if_neg c0] at hr
      by_cases c1 : i < 100 ∧ j < 100 ∧ la.length < 100
      · rw [if_pos c1] at hr
        obtain ⟨hS, hE⟩ := Prod.mk.inj (Option.some.inj hr)
        subst hS
        subst hE
        refine go_iloadN C (pc' := 17) d12_16 rfl rfl ?_
        refine go_aloadN C (pc' := 18) d12_17 rfl rfl rfl ?_
        refine go_getF C (pc' := 21) (own_w hw (i := 18) rfl) T.1.2.2.1 d12_18 rfl ?_
        refine go_nalen C (pc' := 22) (T.2.1) d12_21 rfl ?_
        refine go_icY C (pc' := 56) d12_22 ((rel_holds .ge _ _).mpr (by show (Int32.ofNat la.length).toInt ≤ (Int32.ofNat i).toInt; rw [nat_i (by omega), nat_i (by omega)]; omega)) (by decide) (by decide) ?_
        refine go_aloadN C (pc' := 57) d12_56 rfl rfl rfl ?_
        refine go_getF C (pc' := 60) (own_w hw (i := 43) rfl) T.1.2.2.2.2.2.2.2.1 d12_57 rfl ?_
        refine go_callV C (pc' := 63) (k' := 0) (n' := 0) (argsL := []) (rest := []) (own_w hw (i := 90) rfl) (own_w hw (i := 91) rfl) (own_w hw (i := 93) rfl) (own_w hw (i := 92) rfl) (own_w hw (i := 28) rfl) (own_w hw (i := 94) rfl) (T.2.2.2.2.2.2.2.1.1) (rmSets Z a0 hw f pa sa ha u h n0 (T.2.2.2.2.2.2.2.1) hle.1) d12_60 rfl rfl (lenOf pd9 rfl) (by decide) (by decide) 0 rfl (by decide) rfl rfl (by decide) (by decide) rfl ?_
        rintro _ _ ⟨rfl, rfl⟩
        show Go E RT n0 (QL Z h0 c A B D P f pa sa ha CH TK la lb le lp ls r uf ch tk tc d1) h 0 0 63 #[.val (.ref c), .val (.int (Int32.ofNat p)), .val (.int (Int32.ofNat j)), .val (.int (Int32.ofNat i)), .unset] [(.int (Int32.ofNat (u.1.length - u.2.2.2)))]
        refine go_iconst C (pc' := 64) (z := 1) d12_63 rfl rfl ?_
        by_cases c2 : u.1.length - u.2.2.2 = 1
        · rw [if_pos c2] at hrr
          refine go_icN C (pc' := 67) d12_64 (teq (by rw [c2]; rfl)).2 rfl ?_
          refine go_iconst C (pc' := 68) (z := 1) d12_67 rfl rfl ?_
          refine go_goto C (pc' := 72) d12_68 (by decide) (by decide) ?_
          refine go_istoreN C (pc' := 73) (Ls' := #[.val (.ref c), .val (.int (Int32.ofNat p)), .val (.int (Int32.ofNat j)), .val (.int (1 : Int32)), .unset]) d12_72 rfl rfl ?_
          refine go_iconst C (pc' := 74) (z := 0) d12_73 rfl rfl ?_
          refine go_istore C (pc' := 76) (Ls' := #[.val (.ref c), .val (.int (Int32.ofNat p)), .val (.int (Int32.ofNat j)), .val (.int (1 : Int32)), .val (.int (0 : Int32))]) d12_74 rfl rfl ?_
          subst hrr
          exact loopV2 Z a0 hw E C c A B D P f pa sa ha CH TK la lb le lp ls ch tk tc d1 p _ 1 uf h0 n0 ge (by omega) (by decide) _ u 0 _ hun (Nat.zero_add _) T K
        · rw [if_neg c2] at hrr
          refine go_icY C (pc' := 71) d12_64 (feq (fun q => c2 (i_inj (b := 1) (by omega) (by omega) q))).2 (by decide) (by decide) ?_
          refine go_iconst C (pc' := 72) (z := 0) d12_71 rfl rfl ?_
          refine go_istoreN C (pc' := 73) (Ls' := #[.val (.ref c), .val (.int (Int32.ofNat p)), .val (.int (Int32.ofNat j)), .val (.int (0 : Int32)), .unset]) d12_72 rfl rfl ?_
          refine go_iconst C (pc' := 74) (z := 0) d12_73 rfl rfl ?_
          refine go_istore C (pc' := 76) (Ls' := #[.val (.ref c), .val (.int (Int32.ofNat p)), .val (.int (Int32.ofNat j)), .val (.int (0 : Int32)), .val (.int (0 : Int32))]) d12_74 rfl rfl ?_
          subst hrr
          exact loopV2 Z a0 hw E C c A B D P f pa sa ha CH TK la lb le lp ls ch tk tc d1 p _ 0 uf h0 n0 ge (by omega) (by decide) _ u 0 _ hun (Nat.zero_add _) T K
      · rw [if_neg c1] at hr; cases hr
set_option maxRecDepth 65536 in
set_option maxHeartbeats 4000000 in
theorem rmV (Z : State) (a0 : Array Value) (hw : ∀ d ∈ tables_1, d.before a0 Z = true) (c A B D P f pa sa ha CH TK : Nat) (la lb le lp : List Nat) (ls : Nat) (u : UFS) (ch tk : List Nat) (tc d1 : Nat) (p r : Nat) (uf : UFS) (h0 : Heap) (n0 : Nat) (ge : n0 ≤ c) (T : Ct Z h0 c A B D P f pa sa ha CH TK la lb le lp ls u ch tk tc d1) (hr : leaveF la lb ls u p = some (r, uf)) : Met Z (⟨"com/example/joinweave/joinweave/graph/CoreTrees", "canLeave", "(I)Z"⟩ : MethodName) prog_138_method_7_code 5 (some .boolean) RT #[.ref c, .int (Int32.ofNat p)] h0 n0 (QL Z h0 c A B D P f pa sa ha CH TK la lb le lp ls r uf ch tk tc d1) := by
  refine met_of (Ls := #[.val (.ref c), .val (.int (Int32.ofNat p)), .unset, .unset, .unset]) (plainFor_of_name pn1) (fun m => by first | (simp [entryFrame, mkF, argsToLocals, Value.category]; done) | rfl) ?_
  intro E (C : Cx E Z "com/example/joinweave/joinweave/graph/CoreTrees" "canLeave" prog_138_method_7_code 5 (some .boolean))
  unfold leaveF at hr
  by_cases c0 : p < ls
  · rw [if_pos c0] at hr
    by_cases c1 : ls < 100
    · rw [if_pos c1] at hr
      cases hr
      refine go_iloadN C (pc' := 1) d12_0 rfl rfl ?_
      refine go_aloadN C (pc' := 2) d12_1 rfl rfl rfl ?_
      refine go_getF C (pc' := 5) (own_w hw (i := 63) rfl) T.1.2.2.2.2.2.2.1 d12_2 rfl ?_
      refine go_icN C (pc' := 8) d12_5 (Bool.eq_false_iff.mpr fun q => by have q2 : (Int32.ofNat ls).toInt ≤ (Int32.ofNat p).toInt := (rel_holds .ge _ _).mp q; rw [nat_i (by omega), nat_i (by omega)] at q2; omega) rfl ?_
      refine go_iconst C (pc' := 9) (z := 1) d12_8 rfl rfl ?_
      refine go_retZ C d12_9 (by decide) (by decide) (by decide) ?_
      exact ⟨rfl, Keep.refl _ _, T⟩
    · rw [if_neg c1] at hr; cases hr
  · rw [if_neg c0] at hr
    by_cases c1 : p < 100
    · rw [if_pos c1] at hr
      cases hjn : joinF la lb 10 u (p + 1) 0 with
      | none => rw [hjn] at hr; cases hr
      | some t =>
        rw [hjn] at hr
        dsimp only at hr
        cases hun : undoN t.2 t.1 with
        | none => rw [hun] at hr; cases hr
        | some u9 =>
          rw [hun] at hr
          dsimp only at hr
          by_cases c2 : t.1.2.2.2 ≤ t.1.1.length ∧ t.1.1.length < 100 ∧ t.2 < 100
          · rw [if_pos c2] at hr
            obtain ⟨u1, j1⟩ := t
            dsimp only at hr hun c2
            obtain ⟨hr1, hr2⟩ := Prod.mk.inj (Option.some.inj hr)
            subst hr2
            refine go_iloadN C (pc' := 1) d12_0 rfl rfl ?_
            refine go_aloadN C (pc' := 2) d12_1 rfl rfl rfl ?_
            refine go_getF C (pc' := 5) (own_w hw (i := 63) rfl) T.1.2.2.2.2.2.2.1 d12_2 rfl ?_
            refine go_icY C (pc' := 10) d12_5 ((rel_holds .ge _ _).mpr (by show (Int32.ofNat ls).toInt ≤ (Int32.ofNat p).toInt; rw [nat_i (by omega), nat_i (by omega)]; omega)) (by decide) (by decide) ?_
            refine go_iconst C (pc' := 11) (z := 0) d12_10 rfl rfl ?_
            refine go_istoreN C (pc' := 12) (Ls' := #[.val (.ref c), .val (.int (Int32.ofNat p)), .val (.int (0 : Int32)), .unset, .unset]) d12_11 rfl rfl ?_
            refine go_iloadN C (pc' := 13) d12_12 rfl rfl ?_
            refine go_iconst C (pc' := 14) (z := 1) d12_13 rfl rfl ?_
            refine go_iadd C (pc' := 15) d12_14 rfl ?_
            rw [show Int32.ofNat p + (1 : Int32) = Int32.ofNat (p + 1) from i_add p 1]
            refine go_istoreN C (pc' := 16) (Ls' := #[.val (.ref c), .val (.int (Int32.ofNat p)), .val (.int (0 : Int32)), .val (.int (Int32.ofNat (p + 1))), .unset]) d12_15 rfl rfl ?_
            exact loopV1 Z a0 hw E C c A B D P f pa sa ha CH TK la lb le lp ls ch tk tc d1 p r u1 u9 j1 h0 n0 ge c2 hun hr1.symm 10 u (p + 1) 0 h0 hjn T (Keep.refl _ _)
          · rw [if_neg c2] at hr; cases hr
    · rw [if_neg c1] at hr; cases hr
def QX (Z : State) (h0 : Heap) (c A B D P f pa sa ha CH TK : Nat) (la lb le lp : List Nat) (ls : Nat) (r : Nat) (S : CTV) (d1 : Nat) (v : Option Value) (h : Heap) : Prop := v = some (.int (Int32.ofNat r)) ∧ Keep h0 h [c, A, B, D, P, f, pa, sa, ha, CH, TK] ∧ Ct Z h c A B D P f pa sa ha CH TK la lb le lp ls S.1 S.2.1 S.2.2.1 S.2.2.2 d1
theorem sub_one (p : Nat) : Int32.ofNat (p + 1) - (1 : Int32) = Int32.ofNat p := i_sub (a := p + 1) (b := 1) (by omega)
theorem add_m1 (x : Int32) : x + (-1 : Int32) = x - 1 := by rw [Int32.sub_eq_add_neg]
theorem leaveF_01 {la lb : List Nat} {ls : Nat} {u u' : UFS} {p r : Nat} (h : leaveF la lb ls u p = some (r, u')) : r = 0 ∨ r = 1 := by
  unfold leaveF at h
  by_cases c0 : p < ls
  · rw [if_pos c0] at h
    by_cases c1 : ls < 100
    · rw [if_pos c1] at h; cases h; exact Or.inr rfl
    · rw [if_neg c1] at h; cases h
  · rw [if_neg c0] at h
    by_cases c1 : p < 100
    · rw [if_pos c1] at h
      cases h1 : joinF la lb 10 u (p + 1) 0 with
      | none => rw [h1] at h; cases h
      | some t =>
        rw [h1] at h; dsimp only at h
        cases h2 : undoN t.2 t.1 with
        | none => rw [h2] at h; cases h
        | some u9 =>
          rw [h2] at h; dsimp only at h
          by_cases c2 : t.1.2.2.2 ≤ t.1.1.length ∧ t.1.1.length < 100 ∧ t.2 < 100
          · rw [if_pos c2] at h
            obtain ⟨q1, -⟩ := Prod.mk.inj (Option.some.inj h)
            by_cases c3 : t.1.1.length - t.1.2.2.2 = 1
            · rw [if_pos c3] at q1; exact Or.inr q1.symm
            · rw [if_neg c3] at q1; exact Or.inl q1.symm
          · rw [if_neg c2] at h; cases h
    · rw [if_neg c1] at h; cases h
set_option maxRecDepth 65536 in
set_option maxHeartbeats 4000000 in
theorem loopX (Z : State) (a0 : Array Value) (hw : ∀ d ∈ tables_1, d.before a0 Z = true) (E : Noise) (C : Cx E Z "com/example/joinweave/joinweave/graph/CoreTrees" "next" prog_138_method_3_code 2 (some .boolean)) (c A B D P f pa sa ha CH TK : Nat) (la lb le lp : List Nat) (ls : Nat) (d1 : Nat) (r : Nat) (S' : CTV) (e : Nat) (h0 : Heap) (n0 : Nat) (ge : n0 ≤ c) : ∀ (q : Nat) (u : UFS) (ch tk : List Nat) (tc : Nat) (h : Heap), nextF la lb le ls q (u, ch, tk, tc) = some (r, S', e) → Ct Z h c A B D P f pa sa ha CH TK la lb le lp ls u ch tk tc d1 → Keep h0 h [c, A, B, D, P, f, pa, sa, ha, CH, TK] → Go E RX n0 (QX Z h0 c A B D P f pa sa ha CH TK la lb le lp ls r S' e) h 0 0 5 #[.val (.ref c), .val (.int ((Int32.ofNat q) - 1))] [] := by
  intro q
  induction q with
  | zero =>
    intro u ch tk tc h hr T K
    have ord := T.2.2.2.2.2.2.2.2
    have hr2 : some (0, ((u, ch, tk, tc) : CTV), 0) = some (r, S', e) := hr
    obtain ⟨e1, e23⟩ := Prod.mk.inj (Option.some.inj hr2)
    obtain ⟨e2, e3⟩ := Prod.mk.inj e23
    refine go_iloadN C (pc' := 6) d11_5 rfl rfl ?_
    refine go_ifY C (pc' := 66) d11_6 (by decide) (by decide) (by decide) ?_
    refine go_aloadN C (pc' := 67) d11_66 rfl rfl rfl ?_
    refine go_iconst C (pc' := 68) (z := (-1)) d11_67 rfl rfl ?_
    show Go E RX n0 (QX Z h0 c A B D P f pa sa ha CH TK la lb le lp ls r S' e) h 0 0 68 #[.val (.ref c), .val (.int ((Int32.ofNat 0) - 1))] [(.int ((Int32.ofNat 0) - 1)), (.ref c)]
    refine go_putF C (pc' := 71) (ty := .int) (own_w hw (i := 14) rfl) (T.1.2.2.2.2.2.2.2.2.2.1) T.1.1 (Or.inl (own_w hw (i := 15) rfl)) (own_w hw (i := 6) rfl) (by decide) rfl rfl (by omega) d11_68 rfl ?_
    intro h1_ W1_
    have T1_ := T.wDe hw W1_
    have K1_ := K.wr W1_ (Or.inl (List.mem_of_getElem? (i := 0) rfl))
    refine go_iconst C (pc' := 72) (z := 0) d11_71 rfl rfl ?_
    refine go_retZ C d11_72 (by decide) (by decide) (by decide) ?_
    subst e1
    subst e2
    subst e3
    exact ⟨rfl, K1_, T1_⟩
  | succ p ih =>
    intro u ch tk tc h hr T K
    have ord := T.2.2.2.2.2.2.2.2
    have smC := An.small T.2.2.2.2.2.1
    unfold nextF at hr
    dsimp only at hr
    rw [sub_one p]
    cases hx : ch[p]? with
    | none => rw [hx] at hr; cases hr
    | some xx =>
      rw [hx] at hr
      dsimp only at hr
      have hpl := (List.getElem?_eq_some_iff.mp hx).1
      refine go_iloadN C (pc' := 6) d11_5 rfl rfl ?_
      refine go_ifN C (pc' := 9) d11_6 (Bool.eq_false_iff.mpr fun q => by have q2 : (Int32.ofNat p).toInt < (0 : Int32).toInt := (rel_holds0 .lt _).mp q; rw [nat_i (by omega)] at q2; have q3 := t0; omega) rfl ?_
      refine go_aloadN C (pc' := 10) d11_9 rfl rfl rfl ?_
      refine go_getF C (pc' := 13) (own_w hw (i := 66) rfl) T.1.2.2.2.2.2.2.2.2.1 d11_10 rfl ?_
      refine go_iloadN C (pc' := 14) d11_13 rfl rfl ?_
      refine go_nloadB C (pc' := 15) (T.2.2.2.2.2.1) hx d11_14 rfl ?_
      refine go_iconst C (pc' := 16) (z := 1) d11_15 rfl rfl ?_
      by_cases c0 : xx = 1
      · rw [if_pos c0] at hr
        subst c0
        refine go_icN C (pc' := 19) d11_16 (teq rfl).2 rfl ?_
        cases hu : undoF u with
        | none => rw [hu] at hr; cases hr
        | some u1 =>
          rw [hu] at hr
          dsimp only at hr
          by_cases c1 : 0 < tc
          · rw [if_pos c1] at hr
            cases hl : leaveF la lb ls u1 p with
            | none => rw [hl] at hr; cases hr
            | some t =>
              rw [hl] at hr
              dsimp only at hr
              obtain ⟨r1, u2⟩ := t
              dsimp only at hr
              refine go_aloadN C (pc' := 20) d11_19 rfl rfl rfl ?_
              refine go_getF C (pc' := 23) (own_w hw (i := 43) rfl) T.1.2.2.2.2.2.2.2.1 d11_20 rfl ?_
              refine go_callV C (pc' := 26) (k' := 0) (n' := 0) (argsL := []) (rest := []) (own_w hw (i := 58) rfl) (own_w hw (i := 59) rfl) (own_w hw (i := 61) rfl) (own_w hw (i := 60) rfl) (own_w hw (i := 28) rfl) (own_w hw (i := 62) rfl) (T.2.2.2.2.2.2.2.1.1) (rmD Z a0 hw f pa sa ha u u1 h n0 ⟨by omega, by omega, by omega, by omega⟩ (T.2.2.2.2.2.2.2.1) hu) d11_23 rfl rfl (lenOf pd2 rfl) (by decide) (by decide) 0 rfl (by decide) rfl rfl (by decide) (by decide) rfl ?_
              rintro _ h1_ ⟨rfl, Ku1_, U1_⟩
              have T1_ := T.wF Ku1_ U1_
              have K1_ := K.trans Ku1_ (mem4 _)
              show Go E RX n0 (QX Z h0 c A B D P f pa sa ha CH TK la lb le lp ls r S' e) h1_ 0 0 26 #[.val (.ref c), .val (.int (Int32.ofNat p))] []
              refine go_aloadN C (pc' := 27) d11_26 rfl rfl rfl ?_
              refine go_dup C (pc' := 28) d11_27 rfl rfl ?_
              refine go_getF C (pc' := 31) (own_w hw (i := 75) rfl) T1_.1.2.2.2.2.2.2.2.2.2.2.2 d11_28 rfl ?_
              refine go_iconst C (pc' := 32) (z := 1) d11_31 rfl rfl ?_
              refine go_isub C (pc' := 33) d11_32 rfl ?_
              rw [show Int32.ofNat tc - (1 : Int32) = Int32.ofNat (tc - 1) from i_sub (b := 1) c1]
              refine go_putF C (pc' := 36) (ty := .int) (own_w hw (i := 75) rfl) (T1_.1.2.2.2.2.2.2.2.2.2.2.2) T1_.1.1 (Or.inl (own_w hw (i := 76) rfl)) (own_w hw (i := 6) rfl) (by decide) rfl rfl (by omega) d11_33 rfl ?_
              intro h2_ W2_
              have T2_ := T1_.wTc hw W2_
              have K2_ := K1_.wr W2_ (Or.inl (List.mem_of_getElem? (i := 0) rfl))
              refine go_aloadN C (pc' := 37) d11_36 rfl rfl rfl ?_
              refine go_iloadN C (pc' := 38) d11_37 rfl rfl ?_
              refine go_callP C (pc' := 41) (k' := 0) (n' := 0) (argsL := [(.int (Int32.ofNat p))]) (rest := []) (own_w hw (i := 86) rfl) (own_w hw (i := 88) rfl) (own_w hw (i := 87) rfl) (own_w hw (i := 7) rfl) (own_w hw (i := 89) rfl) (own_w hw (i := 6) rfl) (T2_.1.1) (rmV Z a0 hw c A B D P f pa sa ha CH TK la lb le lp ls u1 ch tk (tc - 1) d1 p r1 u2 h2_ n0 ge T2_ hl) d11_38 rfl rfl (lenOf pd8 rfl) (by decide) (by decide) 0 rfl (by decide) rfl rfl (by decide) (by decide) rfl ?_
              rintro _ h3_ ⟨rfl, Ku3_, T3_⟩
              have K3_ := K2_.trans Ku3_ (fun x hx => Or.inl hx)
              show Go E RX n0 (QX Z h0 c A B D P f pa sa ha CH TK la lb le lp ls r S' e) h3_ 0 0 41 #[.val (.ref c), .val (.int (Int32.ofNat p))] [(.int (Int32.ofNat r1))]
              have h01 := leaveF_01 hl
              by_cases c2 : r1 = 0
              · rw [if_pos c2] at hr
                subst c2
                refine go_ifY C (pc' := 60) d11_41 rfl (by decide) (by decide) ?_
                refine go_iinc C (pc' := 63) (z := -1) (Ls' := #[.val (.ref c), .val (.int ((Int32.ofNat p) - 1))]) d11_60 rfl rfl (by rw [add_m1]; rfl) rfl ?_
                refine go_goto C (pc' := 5) d11_63 (by decide) (by decide) ?_
                exact ih _ _ _ _ _ hr T3_ K3_
              · rw [if_neg c2] at hr
                cases ht : takeF la lb le 10 (u2, ch.set p 2, tk, tc - 1) (p + 1) with
                | none => rw [ht] at hr; cases hr
                | some rr =>
                  rw [ht] at hr
                  dsimp only at hr
                  rw [nz_i h01 c2]
                  refine go_ifN C (pc' := 44) d11_41 rfl rfl ?_
                  refine go_aloadN C (pc' := 45) d11_44 rfl rfl rfl ?_
                  refine go_getF C (pc' := 48) (own_w hw (i := 66) rfl) T3_.1.2.2.2.2.2.2.2.2.1 d11_45 rfl ?_
                  refine go_iloadN C (pc' := 49) d11_48 rfl rfl ?_
                  refine go_iconst C (pc' := 50) (z := 2) d11_49 rfl rfl ?_
                  refine go_nstoreB (v := 2) C (pc' := 51) (T3_.2.2.2.2.2.1) hpl (by decide) (by omega) d11_50 rfl ?_
                  intro h4_ W4_
                  have T4_ := T3_.wCh W4_
                  have K4_ := K3_.wr W4_ (Or.inl (List.mem_of_getElem? (i := 9) rfl))
                  refine go_aloadN C (pc' := 52) d11_51 rfl rfl rfl ?_
                  refine go_iloadN C (pc' := 53) d11_52 rfl rfl ?_
                  refine go_iconst C (pc' := 54) (z := 1) d11_53 rfl rfl ?_
                  refine go_iadd C (pc' := 55) d11_54 rfl ?_
                  rw [show Int32.ofNat p + (1 : Int32) = Int32.ofNat (p + 1) from i_add p 1]
                  obtain ⟨S9, e9⟩ := rr
                  obtain ⟨e1, e23⟩ := Prod.mk.inj (Option.some.inj hr)
                  obtain ⟨e2, e3⟩ := Prod.mk.inj e23
                  refine go_callP C (pc' := 58) (k' := 0) (n' := 0) (argsL := [(.int (Int32.ofNat (p + 1)))]) (rest := []) (own_w hw (i := 77) rfl) (own_w hw (i := 79) rfl) (own_w hw (i := 78) rfl) (own_w hw (i := 7) rfl) (own_w hw (i := 80) rfl) (own_w hw (i := 6) rfl) (T4_.1.1) (rmT Z a0 hw c A B D P f pa sa ha CH TK la lb le lp ls u2 (ch.set p 2) tk (tc - 1) d1 (p + 1) S9 e9 h4_ n0 ge T4_ ht) d11_55 rfl rfl (lenOf pd3 rfl) (by decide) (by decide) 0 rfl (by decide) rfl rfl (by decide) (by decide) rfl ?_
                  rintro _ h5_ ⟨rfl, Ku5_, T5_⟩
                  have K5_ := K4_.trans Ku5_ (fun x hx => Or.inl hx)
                  show Go E RX n0 (QX Z h0 c A B D P f pa sa ha CH TK la lb le lp ls r S' e) h5_ 0 0 58 #[.val (.ref c), .val (.int (Int32.ofNat p))] []
                  refine go_iconst C (pc' := 59) (z := 1) d11_58 rfl rfl ?_
                  refine go_retZ C d11_59 (by decide) (by decide) (by decide) ?_
                  subst e1
                  subst e2
                  subst e3
                  exact ⟨rfl, K5_, T5_⟩
          · rw [if_neg c1] at hr; cases hr
      · rw [if_neg c0] at hr
        by_cases c1 : xx < 100
        · rw [if_pos c1] at hr
          refine go_icY C (pc' := 60) d11_16 (feq (fun q => c0 (i_inj (b := 1) (by omega) (by omega) q))).2 (by decide) (by decide) ?_
          refine go_iinc C (pc' := 63) (z := -1) (Ls' := #[.val (.ref c), .val (.int ((Int32.ofNat p) - 1))]) d11_60 rfl rfl (by rw [add_m1]; rfl) rfl ?_
          refine go_goto C (pc' := 5) d11_63 (by decide) (by decide) ?_
          exact ih _ _ _ _ _ hr T K
        · rw [if_neg c1] at hr; cases hr
set_option maxRecDepth 65536 in
set_option maxHeartbeats 4000000 in
theorem rmX (Z : State) (a0 : Array Value) (hw : ∀ d ∈ tables_1, d.before a0 Z = true) (c A B D P f pa sa ha CH TK : Nat) (la lb le lp : List Nat) (ls : Nat) (u : UFS) (ch tk : List Nat) (tc d1 : Nat) (r : Nat) (S' : CTV) (e : Nat) (h0 : Heap) (n0 : Nat) (ge : n0 ≤ c) (T : Ct Z h0 c A B D P f pa sa ha CH TK la lb le lp ls u ch tk tc d1) (hr : nextF la lb le ls d1 (u, ch, tk, tc) = some (r, S', e)) : Met Z (⟨"com/example/joinweave/joinweave/graph/CoreTrees", "next", "()Z"⟩ : MethodName) prog_138_method_3_code 2 (some .boolean) RX #[.ref c] h0 n0 (QX Z h0 c A B D P f pa sa ha CH TK la lb le lp ls r S' e) := by
  refine met_of (Ls := #[.val (.ref c), .unset]) (plainFor_of_name pn1) (fun m => by first | (simp [entryFrame, mkF, argsToLocals, Value.category]; done) | rfl) ?_
  intro E (C : Cx E Z "com/example/joinweave/joinweave/graph/CoreTrees" "next" prog_138_method_3_code 2 (some .boolean))
  refine go_aloadN C (pc' := 1) d11_0 rfl rfl rfl ?_
  refine go_getF C (pc' := 4) (own_w hw (i := 14) rfl) T.1.2.2.2.2.2.2.2.2.2.1 d11_1 rfl ?_
  refine go_istoreN C (pc' := 5) (Ls' := #[.val (.ref c), .val (.int ((Int32.ofNat d1) - 1))]) d11_4 rfl rfl ?_
  exact loopX Z a0 hw E C c A B D P f pa sa ha CH TK la lb le lp ls d1 r S' e h0 n0 ge d1 u ch tk tc h0 hr T (Keep.refl _ _)
set_option maxRecDepth 65536 in
set_option maxHeartbeats 4000000 in
theorem rmFst (Z : State) (a0 : Array Value) (hw : ∀ d ∈ tables_1, d.before a0 Z = true) (c A B D P f pa sa ha CH TK : Nat) (la lb le lp : List Nat) (ls : Nat) (u : UFS) (ch tk : List Nat) (d1 : Nat) (S' : CTV) (e : Nat) (h0 : Heap) (n0 : Nat) (ge : n0 ≤ c) (T : Ct Z h0 c A B D P f pa sa ha CH TK la lb le lp ls u ch tk 0 d1) (hr : takeF la lb le 10 (u, ch, tk, 0) 0 = some (S', e)) : Met Z (⟨"com/example/joinweave/joinweave/graph/CoreTrees", "first", "()V"⟩ : MethodName) prog_138_method_2_code 1 none RF #[.ref c] h0 n0 (QT Z h0 c A B D P f pa sa ha CH TK la lb le lp ls S' e) := by
  refine met_of (Ls := #[.val (.ref c)]) (plainFor_of_name pn1) (fun m => by first | (simp [entryFrame, mkF, argsToLocals, Value.category]; done) | rfl) ?_
  intro E (C : Cx E Z "com/example/joinweave/joinweave/graph/CoreTrees" "first" prog_138_method_2_code 1 none)
  refine go_aloadN C (pc' := 1) d9_0 rfl rfl rfl ?_
  refine go_getF C (pc' := 4) (own_w hw (i := 75) rfl) T.1.2.2.2.2.2.2.2.2.2.2.2 d9_1 rfl ?_
  refine go_ifY C (pc' := 27) d9_4 (by decide) (by decide) (by decide) ?_
  refine go_aloadN C (pc' := 28) d9_27 rfl rfl rfl ?_
  refine go_iconst C (pc' := 29) (z := 0) d9_28 rfl rfl ?_
  refine go_callP C (pc' := 32) (k' := 0) (n' := 0) (argsL := [(.int (0 : Int32))]) (rest := []) (own_w hw (i := 77) rfl) (own_w hw (i := 79) rfl) (own_w hw (i := 78) rfl) (own_w hw (i := 7) rfl) (own_w hw (i := 80) rfl) (own_w hw (i := 6) rfl) (T.1.1) (rmT Z a0 hw c A B D P f pa sa ha CH TK la lb le lp ls u ch tk 0 d1 0 S' e h0 n0 ge T hr) d9_29 rfl rfl (lenOf pd3 rfl) (by decide) (by decide) 0 rfl (by decide) rfl rfl (by decide) (by decide) rfl ?_
  rintro _ h1 ⟨rfl, K1, T1⟩
  show Go E RF n0 (QT Z h0 c A B D P f pa sa ha CH TK la lb le lp ls S' e) h1 0 0 32 #[.val (.ref c)] []
  refine go_retV C d9_32 (by decide) (by decide) ?_
  exact ⟨rfl, K1, T1⟩
set_option maxRecDepth 65536 in
set_option maxHeartbeats 4000000 in
theorem rmK (Z : State) (a0 : Array Value) (hw : ∀ d ∈ tables_1, d.before a0 Z = true) (c A B D P f pa sa ha CH TK : Nat) (la lb le lp : List Nat) (ls : Nat) (u : UFS) (ch tk : List Nat) (tc d1 : Nat) (i r : Nat) (h0 : Heap) (n0 : Nat) (T : Ct Z h0 c A B D P f pa sa ha CH TK la lb le lp ls u ch tk tc d1) (hr : takenF lp ch d1 i = some r) : Met Z (⟨"com/example/joinweave/joinweave/graph/CoreTrees", "taken", "(I)Z"⟩ : MethodName) prog_138_method_4_code 3 (some .boolean) R0 #[.ref c, .int (Int32.ofNat i)] h0 n0 (Qi r h0) := by
  refine met_of (Ls := #[.val (.ref c), .val (.int (Int32.ofNat i)), .unset]) (plainFor_of_name pn1) (fun m => by first | (simp [entryFrame, mkF, argsToLocals, Value.category]; done) | rfl) ?_
  intro E (C : Cx E Z "com/example/joinweave/joinweave/graph/CoreTrees" "taken" prog_138_method_4_code 3 (some .boolean))
  unfold takenF at hr
  cases hp : lp[i]? with
  | none => rw [hp] at hr; cases hr
  | some p =>
    rw [hp] at hr
    dsimp only at hr
    by_cases c0 : p < 100 ∧ d1 < 100
    · rw [if_pos c0] at hr
      refine go_aloadN C (pc' := 1) d14_0 rfl rfl rfl ?_
      refine go_getF C (pc' := 4) (own_w hw (i := 24) rfl) T.1.2.2.2.2.2.1 d14_1 rfl ?_
      refine go_iloadN C (pc' := 5) d14_4 rfl rfl ?_
      refine go_nload C (pc' := 6) (T.2.2.2.2.1) hp d14_5 rfl ?_
      refine go_istoreN C (pc' := 7) (Ls' := #[.val (.ref c), .val (.int (Int32.ofNat i)), .val (.int (Int32.ofNat p))]) d14_6 rfl rfl ?_
      refine go_iloadN C (pc' := 8) d14_7 rfl rfl ?_
      refine go_aloadN C (pc' := 9) d14_8 rfl rfl rfl ?_
      refine go_getF C (pc' := 12) (own_w hw (i := 14) rfl) T.1.2.2.2.2.2.2.2.2.2.1 d14_9 rfl ?_
      have hdec := dec_i (d := d1) (by omega)
      have hpi := nat_i (n := p) (by omega)
      by_cases c1 : p < d1
      · rw [if_pos c1] at hr
        cases hx : ch[p]? with
        | none => rw [hx] at hr; cases hr
        | some xx =>
          rw [hx] at hr
          dsimp only at hr
          refine go_icN C (pc' := 15) d14_12 (Bool.eq_false_iff.mpr fun q => by have q2 : (Int32.ofNat d1 - 1).toInt < (Int32.ofNat p).toInt := (rel_holds .gt _ _).mp q; rw [hdec, hpi] at q2; omega) rfl ?_
          refine go_aloadN C (pc' := 16) d14_15 rfl rfl rfl ?_
          refine go_getF C (pc' := 19) (own_w hw (i := 66) rfl) T.1.2.2.2.2.2.2.2.2.1 d14_16 rfl ?_
          refine go_iloadN C (pc' := 20) d14_19 rfl rfl ?_
          refine go_nloadB C (pc' := 21) (T.2.2.2.2.2.1) hx d14_20 rfl ?_
          refine go_iconst C (pc' := 22) (z := 1) d14_21 rfl rfl ?_
          by_cases c2 : xx = 1
          · rw [if_pos c2] at hr
            cases hr
            refine go_icN C (pc' := 25) d14_22 (teq (by rw [c2]; rfl)).2 rfl ?_
            refine go_iconst C (pc' := 26) (z := 1) d14_25 rfl rfl ?_
            refine go_goto C (pc' := 30) d14_26 (by decide) (by decide) ?_
            refine go_retZ C d14_30 (by decide) (by decide) (by decide) ?_
            exact ⟨rfl, rfl⟩
          · rw [if_neg c2] at hr
            by_cases c3 : xx < 100
            · rw [if_pos c3] at hr
              cases hr
              refine go_icY C (pc' := 29) d14_22 (feq (fun q => c2 (i_inj (b := 1) (by omega) (by omega) q))).2 (by decide) (by decide) ?_
              refine go_iconst C (pc' := 30) (z := 0) d14_29 rfl rfl ?_
              refine go_retZ C d14_30 (by decide) (by decide) (by decide) ?_
              exact ⟨rfl, rfl⟩
            · rw [if_neg c3] at hr; cases hr
      · rw [if_neg c1] at hr
        cases hr
        refine go_icY C (pc' := 29) d14_12 ((rel_holds .gt _ _).mpr (by show (Int32.ofNat d1 - 1).toInt < (Int32.ofNat p).toInt; rw [hdec, hpi]; omega)) (by decide) (by decide) ?_
        refine go_iconst C (pc' := 30) (z := 0) d14_29 rfl rfl ?_
        refine go_retZ C d14_30 (by decide) (by decide) (by decide) ?_
        exact ⟨rfl, rfl⟩
    · rw [if_neg c0] at hr; cases hr
/-! ## the constructor and the law, plain -/
def unisF (la lb : List Nat) : Nat → Nat → UFS → List Nat → Option (UFS × List Nat)
  | 0, _, _, _ => none
  | g + 1, i, u, l => if i < la.length then
      match la[i]? with
      | none => none
      | some a => match lb[i]? with
        | none => none
        | some b => match unionF u a b with
          | none => none
          | some t => if i < l.length then unisF la lb g (i + 1) t.2 (l.set i t.1) else none
    else some (u, l)
abbrev PLC : Type := List Nat × List Nat × List Nat × List Nat
def placeF (xa xb xe xl : List Nat) : Nat → Nat → Nat → Nat → PLC → Option PLC
  | 0, _, _, _, _ => none
  | g + 1, i, be, af, S => if i < xa.length then
      match xl[i]? with
      | none => none
      | some r => match xa[i]? with
        | none => none
        | some a => match xb[i]? with
          | none => none
          | some b => match xe[i]? with
            | none => none
            | some e => if be < S.1.length ∧ be < S.2.1.length ∧ be < S.2.2.1.length ∧ i < S.2.2.2.length ∧ r = 0 then
                placeF xa xb xe xl g (i + 1) (be + 1) af (S.1.set be a, S.2.1.set be b, S.2.2.1.set be e, S.2.2.2.set i be)
              else if af < S.1.length ∧ af < S.2.1.length ∧ af < S.2.2.1.length ∧ i < S.2.2.2.length ∧ r = 1 then
                placeF xa xb xe xl g (i + 1) be (af + 1) (S.1.set af a, S.2.1.set af b, S.2.2.1.set af e, S.2.2.2.set i af)
              else none
    else some S
def ctorF (la lb : List Nat) : Option (PLC × UFS) :=
  match unisF la lb 10 0 initF [0, 0, 0, 0] with
  | none => none
  | some t => match undoN 2 t.1 with
    | none => none
    | some u => match placeF la lb [10, 11, 12, 13] t.2 10 0 0 2 ([0, 0, 0, 0], [0, 0, 0, 0], [0, 0, 0, 0], [0, 0, 0, 0]) with
      | none => none
      | some p => some (p, u)
def mN (t k : Nat) : Nat := if t = 0 then 0 else 2 ^ k
def agN (t x0 x1 m : Nat) : Bool := decide (t = if x0 = m then 1 else if x1 = m then 1 else 0)
def tailF (lp lk : List Nat) (r : Nat) (S : CTV) (d : Nat) : Bool :=
  match takenF lp S.2.1 d 0 with
  | none => false
  | some t0 => match takenF lp S.2.1 d 1 with
    | none => false
    | some t1 => match takenF lp S.2.1 d 2 with
      | none => false
      | some t2 => match takenF lp S.2.1 d 3 with
        | none => false
        | some t3 => if r = 0 then decide (t0 = 0 ∧ t1 = 0 ∧ t2 = 0 ∧ t3 = 0) else
          match S.2.2.1 with
          | [x0, x1] => decide (S.2.2.2 = 2 ∧ x0 < 100 ∧ x1 < 100 ∧ t0 + t1 + t2 + t3 = 2) && (agN t0 x0 x1 10 && (agN t1 x0 x1 11 && (agN t2 x0 x1 12 && (agN t3 x0 x1 13 &&
              (match lk with
              | [k0, k1, k2, k3] => decide (mN t0 k0 + mN t1 k1 + mN t2 k2 + mN t3 k3 = 3 ∨ mN t0 k0 + mN t1 k1 + mN t2 k2 + mN t3 k3 = 5 ∨ mN t0 k0 + mN t1 k1 + mN t2 k2 + mN t3 k3 = 6)
              | _ => false)))))
          | _ => false
def runF (la lb le : List Nat) (ls : Nat) (lp lk : List Nat) : Nat → Nat → CTV → Nat → Bool
  | 0, r, S, d => tailF lp lk r S d
  | m + 1, r, S, d => if r = 0 then tailF lp lk r S d else
      match nextF la lb le ls d S with
      | none => false
      | some t => runF la lb le ls lp lk m t.1 t.2.1 t.2.2
def allF (la lb le : List Nat) (ls : Nat) (lp lk : List Nat) : Nat → Nat → CTV → Nat → Bool
  | 0, r, S, d => tailF lp lk r S d
  | m + 1, r, S, d => tailF lp lk r S d && (if r = 0 then true else
      match nextF la lb le ls d S with
      | none => false
      | some t => allF la lb le ls lp lk m t.1 t.2.1 t.2.2)
def lawF (la lb lk : List Nat) : Bool :=
  match ctorF la lb with
  | none => false
  | some t => match takeF t.1.1 t.1.2.1 t.1.2.2.1 10 (t.2, [0, 0, 0, 0], [0, 0], 0) 0 with
    | none => false
    | some s => allF t.1.1 t.1.2.1 t.1.2.2.1 2 t.1.2.2.2 lk 3 1 s.1 s.2
theorem run_dead {la lb le : List Nat} {ls : Nat} {lp lk : List Nat} (m : Nat) (S : CTV) (d : Nat) : runF la lb le ls lp lk m 0 S d = tailF lp lk 0 S d := by
  cases m with
  | zero => rfl
  | succ m => unfold runF; rw [if_pos rfl]
theorem run_all {la lb le : List Nat} {ls : Nat} {lp lk : List Nat} : ∀ (m r : Nat) (S : CTV) (d : Nat), allF la lb le ls lp lk m r S d = true → ∀ n, n ≤ m → runF la lb le ls lp lk n r S d = true
  | 0, r, S, d, h, n, hn => by
    obtain rfl : n = 0 := by omega
    exact h
  | m + 1, r, S, d, h, n, hn => by
    unfold allF at h
    obtain ⟨h1, h2⟩ := (Bool.and_eq_true _ _).mp h
    cases n with
    | zero => exact h1
    | succ n =>
      unfold runF
      by_cases c : r = 0
      · rw [if_pos c]; exact h1
      · rw [if_neg c] at h2 ⊢
        cases e : nextF la lb le ls d S with
        | none => rw [e] at h2; cases h2
        | some t =>
          rw [e] at h2
          exact run_all m t.1 t.2.1 t.2.2 h2 n (by omega)
def edT (i : Nat) : Nat × Nat × Nat := match i with
  | 0 => (0, 1, 0)
  | 1 => (1, 0, 0)
  | 2 => (1, 2, 1)
  | 3 => (2, 1, 1)
  | 4 => (0, 2, 2)
  | 5 => (2, 0, 2)
  | 6 => (0, 0, 3)
  | 7 => (1, 1, 3)
  | _ => (2, 2, 3)
def has (k a b c d : Nat) : Nat := if a = k ∨ b = k ∨ c = k ∨ d = k then 1 else 0
def connN (a b c d : Nat) : Bool := decide (2 ≤ has 0 a b c d + has 1 a b c d + has 2 a b c d)
def checkF (i j k l : Nat) : Bool :=
  !(connN (edT i).2.2 (edT j).2.2 (edT k).2.2 (edT l).2.2) || lawF [(edT i).1, (edT j).1, (edT k).1, (edT l).1] [(edT i).2.1, (edT j).2.1, (edT k).2.1, (edT l).2.1] [(edT i).2.2, (edT j).2.2, (edT k).2.2, (edT l).2.2]
theorem d1_0 : decode method_3_code 0 = .ok (.iload 4, 2) := by decide +kernel
theorem d1_2 : decode method_3_code 2 = .ok (.iconst 2, 1) := by decide +kernel
theorem d1_3 : decode method_3_code 3 = .ok (.iload_n 3, 1) := by decide +kernel
theorem d1_4 : decode method_3_code 4 = .ok (.imul, 1) := by decide +kernel
theorem d1_5 : decode method_3_code 5 = .ok (.iushr, 1) := by decide +kernel
theorem d1_6 : decode method_3_code 6 = .ok (.iconst 3, 1) := by decide +kernel
theorem d1_7 : decode method_3_code 7 = .ok (.iand, 1) := by decide +kernel
theorem d1_8 : decode method_3_code 8 = .ok (.istore 6, 2) := by decide +kernel
theorem d1_10 : decode method_3_code 10 = .ok (.iload 6, 2) := by decide +kernel
theorem d1_12 : decode method_3_code 12 = .ok (.ifCond .ne 12, 3) := by decide +kernel
theorem d1_15 : decode method_3_code 15 = .ok (.iconst 0, 1) := by decide +kernel
theorem d1_16 : decode method_3_code 16 = .ok (.istore 7, 2) := by decide +kernel
theorem d1_18 : decode method_3_code 18 = .ok (.iconst 1, 1) := by decide +kernel
theorem d1_19 : decode method_3_code 19 = .ok (.istore 8, 2) := by decide +kernel
theorem d1_21 : decode method_3_code 21 = .ok (.goto 49, 3) := by decide +kernel
theorem d1_24 : decode method_3_code 24 = .ok (.iload 6, 2) := by decide +kernel
theorem d1_26 : decode method_3_code 26 = .ok (.iconst 1, 1) := by decide +kernel
theorem d1_27 : decode method_3_code 27 = .ok (.if_icmp .ne 12, 3) := by decide +kernel
theorem d1_30 : decode method_3_code 30 = .ok (.iconst 1, 1) := by decide +kernel
theorem d1_31 : decode method_3_code 31 = .ok (.istore 7, 2) := by decide +kernel
theorem d1_33 : decode method_3_code 33 = .ok (.iconst 2, 1) := by decide +kernel
theorem d1_34 : decode method_3_code 34 = .ok (.istore 8, 2) := by decide +kernel
theorem d1_36 : decode method_3_code 36 = .ok (.goto 34, 3) := by decide +kernel
theorem d1_39 : decode method_3_code 39 = .ok (.iload 6, 2) := by decide +kernel
theorem d1_41 : decode method_3_code 41 = .ok (.iconst 2, 1) := by decide +kernel
theorem d1_42 : decode method_3_code 42 = .ok (.if_icmp .ne 12, 3) := by decide +kernel
theorem d1_45 : decode method_3_code 45 = .ok (.iconst 0, 1) := by decide +kernel
theorem d1_46 : decode method_3_code 46 = .ok (.istore 7, 2) := by decide +kernel
theorem d1_48 : decode method_3_code 48 = .ok (.iconst 2, 1) := by decide +kernel
theorem d1_49 : decode method_3_code 49 = .ok (.istore 8, 2) := by decide +kernel
theorem d1_51 : decode method_3_code 51 = .ok (.goto 19, 3) := by decide +kernel
theorem d1_54 : decode method_3_code 54 = .ok (.iload 5, 2) := by decide +kernel
theorem d1_56 : decode method_3_code 56 = .ok (.iconst 2, 1) := by decide +kernel
theorem d1_57 : decode method_3_code 57 = .ok (.iload_n 3, 1) := by decide +kernel
theorem d1_58 : decode method_3_code 58 = .ok (.imul, 1) := by decide +kernel
theorem d1_59 : decode method_3_code 59 = .ok (.iushr, 1) := by decide +kernel
theorem d1_60 : decode method_3_code 60 = .ok (.iconst 3, 1) := by decide +kernel
theorem d1_61 : decode method_3_code 61 = .ok (.iand, 1) := by decide +kernel
theorem d1_62 : decode method_3_code 62 = .ok (.iconst 3, 1) := by decide +kernel
theorem d1_63 : decode method_3_code 63 = .ok (.irem, 1) := by decide +kernel
theorem d1_64 : decode method_3_code 64 = .ok (.istore 7, 2) := by decide +kernel
theorem d1_66 : decode method_3_code 66 = .ok (.iload 7, 2) := by decide +kernel
theorem d1_68 : decode method_3_code 68 = .ok (.istore 8, 2) := by decide +kernel
theorem d1_70 : decode method_3_code 70 = .ok (.iload 5, 2) := by decide +kernel
theorem d1_72 : decode method_3_code 72 = .ok (.bipush 8, 2) := by decide +kernel
theorem d1_74 : decode method_3_code 74 = .ok (.iload_n 3, 1) := by decide +kernel
theorem d1_75 : decode method_3_code 75 = .ok (.iadd, 1) := by decide +kernel
theorem d1_76 : decode method_3_code 76 = .ok (.iushr, 1) := by decide +kernel
theorem d1_77 : decode method_3_code 77 = .ok (.iconst 1, 1) := by decide +kernel
theorem d1_78 : decode method_3_code 78 = .ok (.iand, 1) := by decide +kernel
theorem d1_79 : decode method_3_code 79 = .ok (.ifCond .eq 15, 3) := by decide +kernel
theorem d1_82 : decode method_3_code 82 = .ok (.iload 7, 2) := by decide +kernel
theorem d1_84 : decode method_3_code 84 = .ok (.istore 9, 2) := by decide +kernel
theorem d1_86 : decode method_3_code 86 = .ok (.iload 8, 2) := by decide +kernel
theorem d1_88 : decode method_3_code 88 = .ok (.istore 7, 2) := by decide +kernel
theorem d1_90 : decode method_3_code 90 = .ok (.iload 9, 2) := by decide +kernel
theorem d1_92 : decode method_3_code 92 = .ok (.istore 8, 2) := by decide +kernel
theorem d1_94 : decode method_3_code 94 = .ok (.aload_n 0, 1) := by decide +kernel
theorem d1_95 : decode method_3_code 95 = .ok (.iload_n 3, 1) := by decide +kernel
theorem d1_96 : decode method_3_code 96 = .ok (.iload 7, 2) := by decide +kernel
theorem d1_98 : decode method_3_code 98 = .ok (.iastore, 1) := by decide +kernel
theorem d1_99 : decode method_3_code 99 = .ok (.aload_n 1, 1) := by decide +kernel
theorem d1_100 : decode method_3_code 100 = .ok (.iload_n 3, 1) := by decide +kernel
theorem d1_101 : decode method_3_code 101 = .ok (.iload 8, 2) := by decide +kernel
theorem d1_103 : decode method_3_code 103 = .ok (.iastore, 1) := by decide +kernel
theorem d1_104 : decode method_3_code 104 = .ok (.aload_n 2, 1) := by decide +kernel
theorem d1_105 : decode method_3_code 105 = .ok (.iload_n 3, 1) := by decide +kernel
theorem d1_106 : decode method_3_code 106 = .ok (.iload 6, 2) := by decide +kernel
theorem d1_108 : decode method_3_code 108 = .ok (.iastore, 1) := by decide +kernel
theorem d1_109 : decode method_3_code 109 = .ok (.iload 6, 2) := by decide +kernel
theorem d1_111 : decode method_3_code 111 = .ok (.iconst 3, 1) := by decide +kernel
theorem d1_112 : decode method_3_code 112 = .ok (.if_icmp .ge 10, 3) := by decide +kernel
theorem d1_115 : decode method_3_code 115 = .ok (.iconst 1, 1) := by decide +kernel
theorem d1_116 : decode method_3_code 116 = .ok (.iload 6, 2) := by decide +kernel
theorem d1_118 : decode method_3_code 118 = .ok (.ishl, 1) := by decide +kernel
theorem d1_119 : decode method_3_code 119 = .ok (.goto 4, 3) := by decide +kernel
theorem d1_122 : decode method_3_code 122 = .ok (.iconst 0, 1) := by decide +kernel
theorem d1_123 : decode method_3_code 123 = .ok (.ireturn, 1) := by decide +kernel
theorem d16_0 : decode method_5_code 0 = .ok (.iload_n 0, 1) := by decide +kernel
theorem d16_1 : decode method_5_code 1 = .ok (.ifCond .eq 9, 3) := by decide +kernel
theorem d16_4 : decode method_5_code 4 = .ok (.iconst 1, 1) := by decide +kernel
theorem d16_5 : decode method_5_code 5 = .ok (.iload_n 1, 1) := by decide +kernel
theorem d16_6 : decode method_5_code 6 = .ok (.ishl, 1) := by decide +kernel
theorem d16_7 : decode method_5_code 7 = .ok (.goto 4, 3) := by decide +kernel
theorem d16_10 : decode method_5_code 10 = .ok (.iconst 0, 1) := by decide +kernel
theorem d16_11 : decode method_5_code 11 = .ok (.ireturn, 1) := by decide +kernel
theorem d17_0 : decode method_4_code 0 = .ok (.iload_n 0, 1) := by decide +kernel
theorem d17_1 : decode method_4_code 1 = .ok (.aload_n 1, 1) := by decide +kernel
theorem d17_2 : decode method_4_code 2 = .ok (.iconst 0, 1) := by decide +kernel
theorem d17_3 : decode method_4_code 3 = .ok (.iaload, 1) := by decide +kernel
theorem d17_4 : decode method_4_code 4 = .ok (.iload_n 2, 1) := by decide +kernel
theorem d17_5 : decode method_4_code 5 = .ok (.if_icmp .eq 10, 3) := by decide +kernel
theorem d17_8 : decode method_4_code 8 = .ok (.aload_n 1, 1) := by decide +kernel
theorem d17_9 : decode method_4_code 9 = .ok (.iconst 1, 1) := by decide +kernel
theorem d17_10 : decode method_4_code 10 = .ok (.iaload, 1) := by decide +kernel
theorem d17_11 : decode method_4_code 11 = .ok (.iload_n 2, 1) := by decide +kernel
theorem d17_12 : decode method_4_code 12 = .ok (.if_icmp .ne 7, 3) := by decide +kernel
theorem d17_15 : decode method_4_code 15 = .ok (.iconst 1, 1) := by decide +kernel
theorem d17_16 : decode method_4_code 16 = .ok (.goto 4, 3) := by decide +kernel
theorem d17_19 : decode method_4_code 19 = .ok (.iconst 0, 1) := by decide +kernel
theorem d17_20 : decode method_4_code 20 = .ok (.if_icmp .ne 7, 3) := by decide +kernel
theorem d17_23 : decode method_4_code 23 = .ok (.iconst 1, 1) := by decide +kernel
theorem d17_24 : decode method_4_code 24 = .ok (.goto 4, 3) := by decide +kernel
theorem d17_27 : decode method_4_code 27 = .ok (.iconst 0, 1) := by decide +kernel
theorem d17_28 : decode method_4_code 28 = .ok (.ireturn, 1) := by decide +kernel
def QCp (Z : State) (h0 : Heap) (t x y : Nat) (v : Option Value) (h : Heap) : Prop := v = some (.int 2) ∧ Keep h0 h [t] ∧ An Z h t .int [x, y]
set_option maxRecDepth 65536 in
set_option maxHeartbeats 4000000 in
theorem rmCp (Z : State) (a0 : Array Value) (hw : ∀ d ∈ tables_1, d.before a0 Z = true) (c A B D P f pa sa ha CH TK : Nat) (la lb le lp : List Nat) (ls : Nat) (u : UFS) (ch : List Nat) (d1 : Nat) (t x y p q : Nat) (h0 : Heap) (n0 : Nat) (ge : n0 ≤ t) (hgt : TK < t) (T : Ct Z h0 c A B D P f pa sa ha CH TK la lb le lp ls u ch [x, y] 2 d1) (B0 : An Z h0 t .int [p, q]) : Met Z (⟨"com/example/joinweave/joinweave/graph/CoreTrees", "copyTo", "([II)I"⟩ : MethodName) prog_138_method_5_code 3 (some .int) RCp #[.ref c, .ref t, .int 0] h0 n0 (QCp Z h0 t x y) := by
  refine met_of (Ls := #[.val (.ref c), .val (.ref t), .val (.int (0 : Int32))]) (plainFor_of_name pn1) (fun m => by first | (simp [entryFrame, mkF, argsToLocals, Value.category]; done) | rfl) ?_
  intro E (C : Cx E Z "com/example/joinweave/joinweave/graph/CoreTrees" "copyTo" prog_138_method_5_code 3 (some .int))
  refine go_aloadN C (pc' := 1) d15_0 rfl rfl rfl ?_
  refine go_getF C (pc' := 4) (own_w hw (i := 68) rfl) T.1.2.2.2.2.2.2.2.2.2.2.1 d15_1 rfl ?_
  refine go_iconst C (pc' := 5) (z := 0) d15_4 rfl rfl ?_
  refine go_aloadN C (pc' := 6) d15_5 rfl rfl rfl ?_
  refine go_iloadN C (pc' := 7) d15_6 rfl rfl ?_
  refine go_aloadN C (pc' := 8) d15_7 rfl rfl rfl ?_
  refine go_getF C (pc' := 11) (own_w hw (i := 75) rfl) T.1.2.2.2.2.2.2.2.2.2.2.2 d15_8 rfl ?_
  show Go E RCp n0 (QCp Z h0 t x y) h0 0 0 11 #[.val (.ref c), .val (.ref t), .val (.int (0 : Int32))] [(.int (2 : Int32)), (.int (0 : Int32)), (.ref t), (.int (0 : Int32)), (.ref TK)]
  refine go_acopy2 C (pc' := 14) (own_w hw (i := 105) rfl) (own_w hw (i := 108) rfl) (own_w hw (i := 106) rfl) (own_w hw (i := 107) rfl) (T.2.2.2.2.2.2.1) B0 ge d15_11 rfl (by decide) 0 rfl (by decide) rfl ?_
  intro h1 K1 B1
  have T1 := T.keep K1 (fun x hx => by rw [List.mem_singleton.mp hx]; exact hgt)
  refine go_iloadN C (pc' := 15) d15_14 rfl rfl ?_
  refine go_aloadN C (pc' := 16) d15_15 rfl rfl rfl ?_
  refine go_getF C (pc' := 19) (own_w hw (i := 75) rfl) T1.1.2.2.2.2.2.2.2.2.2.2.2 d15_16 rfl ?_
  refine go_iadd C (pc' := 20) d15_19 rfl ?_
  refine go_retI C d15_20 (by decide) (by decide) ?_
  exact ⟨rfl, K1, B1⟩
def bitV (t k : Nat) : Int32 := if t = 0 then 0 else (1 : Int32) <<< (Int32.ofNat k &&& 31)
def Qv (z : Int32) (h0 : Heap) (v : Option Value) (h : Heap) : Prop := v = some (.int z) ∧ h0 = h
set_option maxRecDepth 65536 in
set_option maxHeartbeats 4000000 in
theorem rmBit (Z : State) (t k : Nat) (h0 : Heap) (n0 : Nat) (h01 : t = 0 ∨ t = 1) : Met Z (⟨"com/example/joinweave/joinweave/graph/CoreTreesTakenPinLaw", "bit", "(ZI)I"⟩ : MethodName) method_5_code 2 (some .int) R0 #[.int (Int32.ofNat t), .int (Int32.ofNat k)] h0 n0 (Qv (bitV t k) h0) := by
  refine met_of (Ls := #[.val (.int (Int32.ofNat t)), .val (.int (Int32.ofNat k))]) (plainFor_of_name pn0) (fun m => by first | (simp [entryFrame, mkF, argsToLocals, Value.category]; done) | rfl) ?_
  intro E (C : Cx E Z "com/example/joinweave/joinweave/graph/CoreTreesTakenPinLaw" "bit" method_5_code 2 (some .int))
  refine go_iloadN C (pc' := 1) d16_0 rfl rfl ?_
  rcases h01 with rfl | rfl
  · skip
    refine go_ifY C (pc' := 10) d16_1 rfl (by decide) (by decide) ?_
    refine go_iconst C (pc' := 11) (z := 0) d16_10 rfl rfl ?_
    refine go_retI C d16_11 (by decide) (by decide) ?_
    exact ⟨rfl, rfl⟩
  · skip
    refine go_ifN C (pc' := 4) d16_1 rfl rfl ?_
    refine go_iconst C (pc' := 5) (z := 1) d16_4 rfl rfl ?_
    refine go_iloadN C (pc' := 6) d16_5 rfl rfl ?_
    refine go_ishl C (pc' := 7) d16_6 rfl ?_
    refine go_goto C (pc' := 11) d16_7 (by decide) (by decide) ?_
    refine go_retI C d16_11 (by decide) (by decide) ?_
    exact ⟨rfl, rfl⟩
set_option maxRecDepth 65536 in
set_option maxHeartbeats 4000000 in
theorem rmAg (Z : State) (t b x y m : Nat) (h0 : Heap) (n0 : Nat) (ha : agN t x y m = true) (hx : x < 100) (hy : y < 100) (hm : m < 100) (B0 : An Z h0 b .int [x, y]) : Met Z (⟨"com/example/joinweave/joinweave/graph/CoreTreesTakenPinLaw", "agree", "(Z[II)Z"⟩ : MethodName) method_4_code 3 (some .boolean) R0 #[.int (Int32.ofNat t), .ref b, .int (Int32.ofNat m)] h0 n0 (Qv 1 h0) := by
  refine met_of (Ls := #[.val (.int (Int32.ofNat t)), .val (.ref b), .val (.int (Int32.ofNat m))]) (plainFor_of_name pn0) (fun m => by first | (simp [entryFrame, mkF, argsToLocals, Value.category]; done) | rfl) ?_
  intro E (C : Cx E Z "com/example/joinweave/joinweave/graph/CoreTreesTakenPinLaw" "agree" method_4_code 3 (some .boolean))
  refine go_iloadN C (pc' := 1) d17_0 rfl rfl ?_
  refine go_aloadN C (pc' := 2) d17_1 rfl rfl rfl ?_
  refine go_iconst C (pc' := 3) (z := 0) d17_2 rfl rfl ?_
  refine go_nload (i := 0) C (pc' := 4) B0 rfl d17_3 rfl ?_
  refine go_iloadN C (pc' := 5) d17_4 rfl rfl ?_
  have hag := of_decide_eq_true ha
  by_cases c1 : x = m
  · rw [if_pos c1] at hag
    refine go_icY C (pc' := 15) d17_5 (teq (by rw [c1])).1 (by decide) (by decide) ?_
    subst hag
    refine go_iconst C (pc' := 16) (z := 1) d17_15 rfl rfl ?_
    refine go_goto C (pc' := 20) d17_16 (by decide) (by decide) ?_
    refine go_icN C (pc' := 23) d17_20 (teq rfl).2 rfl ?_
    refine go_iconst C (pc' := 24) (z := 1) d17_23 rfl rfl ?_
    refine go_goto C (pc' := 28) d17_24 (by decide) (by decide) ?_
    refine go_retZ C d17_28 (by decide) (by decide) (by decide) ?_
    exact ⟨rfl, rfl⟩
  · rw [if_neg c1] at hag
    refine go_icN C (pc' := 8) d17_5 (feq (fun q => c1 (i_inj (by omega) (by omega) q))).1 rfl ?_
    refine go_aloadN C (pc' := 9) d17_8 rfl rfl rfl ?_
    refine go_iconst C (pc' := 10) (z := 1) d17_9 rfl rfl ?_
    refine go_nload (i := 1) C (pc' := 11) B0 rfl d17_10 rfl ?_
    refine go_iloadN C (pc' := 12) d17_11 rfl rfl ?_
    by_cases c2 : y = m
    · rw [if_pos c2] at hag
      refine go_icN C (pc' := 15) d17_12 (teq (by rw [c2])).2 rfl ?_
      subst hag
      refine go_iconst C (pc' := 16) (z := 1) d17_15 rfl rfl ?_
      refine go_goto C (pc' := 20) d17_16 (by decide) (by decide) ?_
      refine go_icN C (pc' := 23) d17_20 (teq rfl).2 rfl ?_
      refine go_iconst C (pc' := 24) (z := 1) d17_23 rfl rfl ?_
      refine go_goto C (pc' := 28) d17_24 (by decide) (by decide) ?_
      refine go_retZ C d17_28 (by decide) (by decide) (by decide) ?_
      exact ⟨rfl, rfl⟩
    · rw [if_neg c2] at hag
      refine go_icY C (pc' := 19) d17_12 (feq (fun q => c2 (i_inj (by omega) (by omega) q))).2 (by decide) (by decide) ?_
      subst hag
      refine go_iconst C (pc' := 20) (z := 0) d17_19 rfl rfl ?_
      refine go_icN C (pc' := 23) d17_20 (teq rfl).2 rfl ?_
      refine go_iconst C (pc' := 24) (z := 1) d17_23 rfl rfl ?_
      refine go_goto C (pc' := 28) d17_24 (by decide) (by decide) ?_
      refine go_retZ C d17_28 (by decide) (by decide) (by decide) ?_
      exact ⟨rfl, rfl⟩
def uvF (k w s : Nat) : Nat × Nat :=
  if s = 0 then (match k with
    | 0 => (0, 1)
    | 1 => (1, 2)
    | 2 => (0, 2)
    | _ => (w % 3, w % 3))
  else (match k with
    | 0 => (1, 0)
    | 1 => (2, 1)
    | 2 => (2, 0)
    | _ => (w % 3, w % 3))
def retF (k : Nat) : Int32 := match k with
  | 0 => 1
  | 1 => 2
  | 2 => 4
  | _ => 0
def QFl (Z : State) (h0 : Heap) (a b kd i k w s : Nat) (la lb lk : List Nat) (v : Option Value) (h : Heap) : Prop := v = some (.int (retF k)) ∧ Keep h0 h [a, b, kd] ∧ An Z h a .int (la.set i (uvF k w s).1) ∧ An Z h b .int (lb.set i (uvF k w s).2) ∧ An Z h kd .int (lk.set i k)
theorem rem3 : ∀ w : Fin 4, Int32.ofNat w.val % (3 : Int32) = Int32.ofNat (w.val % 3) := by decide +kernel
set_option maxRecDepth 65536 in
set_option maxHeartbeats 4000000 in
theorem rmFl (Z : State) (a b kd i k w s : Nat) (sh en : Int32) (la lb lk : List Nat) (h0 : Heap) (n0 : Nat) (ge : n0 ≤ a) (hab : a < b) (hbk : b < kd) (hla : i < la.length) (hlb : i < lb.length) (hlk : i < lk.length) (hk4 : k = 0 ∨ k = 1 ∨ k = 2 ∨ k = 3) (hw4 : w < 4) (hs2 : s = 0 ∨ s = 1) (hk : (XT.ushr sh ((2 : Int32) * (Int32.ofNat i))) &&& (3 : Int32) = (Int32.ofNat k)) (hww : (XT.ushr en ((2 : Int32) * (Int32.ofNat i))) &&& (3 : Int32) = (Int32.ofNat w)) (hs : (XT.ushr en ((8 : Int32) + (Int32.ofNat i))) &&& (1 : Int32) = (Int32.ofNat s)) (A0 : An Z h0 a .int la) (B0 : An Z h0 b .int lb) (D0 : An Z h0 kd .int lk) : Met Z (⟨"com/example/joinweave/joinweave/graph/CoreTreesTakenPinLaw", "fill", "([I[I[IIII)I"⟩ : MethodName) method_3_code 10 (some .int) R0 #[.ref a, .ref b, .ref kd, .int (Int32.ofNat i), .int sh, .int en] h0 n0 (QFl Z h0 a b kd i k w s la lb lk) := by
  refine met_of (Ls := #[.val (.ref a), .val (.ref b), .val (.ref kd), .val (.int (Int32.ofNat i)), .val (.int sh), .val (.int en), .unset, .unset, .unset, .unset]) (plainFor_of_name pn0) (fun m => by first | (simp [entryFrame, mkF, argsToLocals, Value.category]; done) | rfl) ?_
  intro E (C : Cx E Z "com/example/joinweave/joinweave/graph/CoreTreesTakenPinLaw" "fill" method_3_code 10 (some .int))
  refine go_iload C (pc' := 2) d1_0 rfl rfl ?_
  refine go_iconst C (pc' := 3) (z := 2) d1_2 rfl rfl ?_
  refine go_iloadN C (pc' := 4) d1_3 rfl rfl ?_
  refine go_imul C (pc' := 5) d1_4 rfl ?_
  refine go_iushr C (pc' := 6) d1_5 rfl ?_
  refine go_iconst C (pc' := 7) (z := 3) d1_6 rfl rfl ?_
  refine go_iand C (pc' := 8) d1_7 rfl ?_
  rw [hk]
  rcases hk4 with rfl | rfl | rfl | rfl
  · skip
    refine go_istore C (pc' := 10) (Ls' := #[.val (.ref a), .val (.ref b), .val (.ref kd), .val (.int (Int32.ofNat i)), .val (.int sh), .val (.int en), .val (.int (Int32.ofNat 0)), .unset, .unset, .unset]) d1_8 rfl rfl ?_
    refine go_iload C (pc' := 12) d1_10 rfl rfl ?_
    refine go_ifN C (pc' := 15) d1_12 (by decide) rfl ?_
    refine go_iconst C (pc' := 16) (z := 0) d1_15 rfl rfl ?_
    refine go_istore C (pc' := 18) (Ls' := #[.val (.ref a), .val (.ref b), .val (.ref kd), .val (.int (Int32.ofNat i)), .val (.int sh), .val (.int en), .val (.int (Int32.ofNat 0)), .val (.int (0 : Int32)), .unset, .unset]) d1_16 rfl rfl ?_
    refine go_iconst C (pc' := 19) (z := 1) d1_18 rfl rfl ?_
    refine go_istore C (pc' := 21) (Ls' := #[.val (.ref a), .val (.ref b), .val (.ref kd), .val (.int (Int32.ofNat i)), .val (.int sh), .val (.int en), .val (.int (Int32.ofNat 0)), .val (.int (0 : Int32)), .val (.int (1 : Int32)), .unset]) d1_19 rfl rfl ?_
    refine go_goto C (pc' := 70) d1_21 (by decide) (by decide) ?_
    refine go_iload C (pc' := 72) d1_70 rfl rfl ?_
    refine go_bipush C (pc' := 74) (z := 8) d1_72 rfl rfl ?_
    refine go_iloadN C (pc' := 75) d1_74 rfl rfl ?_
    refine go_iadd C (pc' := 76) d1_75 rfl ?_
    refine go_iushr C (pc' := 77) d1_76 rfl ?_
    refine go_iconst C (pc' := 78) (z := 1) d1_77 rfl rfl ?_
    refine go_iand C (pc' := 79) d1_78 rfl ?_
    rw [hs]
    rcases hs2 with rfl | rfl
    · skip
      refine go_ifY C (pc' := 94) d1_79 rfl (by decide) (by decide) ?_
      refine go_aloadN C (pc' := 95) d1_94 rfl rfl rfl ?_
      refine go_iloadN C (pc' := 96) d1_95 rfl rfl ?_
      refine go_iload C (pc' := 98) d1_96 rfl rfl ?_
      refine go_nstore (i := i) (v := 0) C (pc' := 99) A0 hla (by omega) d1_98 rfl ?_
      intro h1 W1
      have A1 := An.setW A0 W1
      have B1 := Ai.other B0 W1 (by omega)
      have D1 := Ai.other D0 W1 (by omega)
      have K1 := (Keep.refl h0 [a, b, kd]).wr W1 (Or.inl (List.mem_of_getElem? (i := 0) rfl))
      refine go_aloadN C (pc' := 100) d1_99 rfl rfl rfl ?_
      refine go_iloadN C (pc' := 101) d1_100 rfl rfl ?_
      refine go_iload C (pc' := 103) d1_101 rfl rfl ?_
      refine go_nstore (i := i) (v := 1) C (pc' := 104) B1 hlb (by omega) d1_103 rfl ?_
      intro h2 W2
      have A2 := Ai.other A1 W2 (by omega)
      have B2 := An.setW B1 W2
      have D2 := Ai.other D1 W2 (by omega)
      have K2 := K1.wr W2 (Or.inl (List.mem_of_getElem? (i := 1) rfl))
      refine go_aloadN C (pc' := 105) d1_104 rfl rfl rfl ?_
      refine go_iloadN C (pc' := 106) d1_105 rfl rfl ?_
      refine go_iload C (pc' := 108) d1_106 rfl rfl ?_
      refine go_nstore (i := i) (v := 0) C (pc' := 109) D2 hlk (by omega) d1_108 rfl ?_
      intro h3 W3
      have A3 := Ai.other A2 W3 (by omega)
      have B3 := Ai.other B2 W3 (by omega)
      have D3 := An.setW D2 W3
      have K3 := K2.wr W3 (Or.inl (List.mem_of_getElem? (i := 2) rfl))
      refine go_iload C (pc' := 111) d1_109 rfl rfl ?_
      refine go_iconst C (pc' := 112) (z := 3) d1_111 rfl rfl ?_
      refine go_icN C (pc' := 115) d1_112 (by decide) rfl ?_
      refine go_iconst C (pc' := 116) (z := 1) d1_115 rfl rfl ?_
      refine go_iload C (pc' := 118) d1_116 rfl rfl ?_
      refine go_ishl C (pc' := 119) d1_118 rfl ?_
      refine go_goto C (pc' := 123) d1_119 (by decide) (by decide) ?_
      refine go_retI C d1_123 (by decide) (by decide) ?_
      exact ⟨rfl, K3, A3, B3, D3⟩
    · skip
      refine go_ifN C (pc' := 82) d1_79 rfl rfl ?_
      refine go_iload C (pc' := 84) d1_82 rfl rfl ?_
      refine go_istore C (pc' := 86) (Ls' := #[.val (.ref a), .val (.ref b), .val (.ref kd), .val (.int (Int32.ofNat i)), .val (.int sh), .val (.int en), .val (.int (Int32.ofNat 0)), .val (.int (0 : Int32)), .val (.int (1 : Int32)), .val (.int (0 : Int32))]) d1_84 rfl rfl ?_
      refine go_iload C (pc' := 88) d1_86 rfl rfl ?_
      refine go_istore C (pc' := 90) (Ls' := #[.val (.ref a), .val (.ref b), .val (.ref kd), .val (.int (Int32.ofNat i)), .val (.int sh), .val (.int en), .val (.int (Int32.ofNat 0)), .val (.int (1 : Int32)), .val (.int (1 : Int32)), .val (.int (0 : Int32))]) d1_88 rfl rfl ?_
      refine go_iload C (pc' := 92) d1_90 rfl rfl ?_
      refine go_istore C (pc' := 94) (Ls' := #[.val (.ref a), .val (.ref b), .val (.ref kd), .val (.int (Int32.ofNat i)), .val (.int sh), .val (.int en), .val (.int (Int32.ofNat 0)), .val (.int (1 : Int32)), .val (.int (0 : Int32)), .val (.int (0 : Int32))]) d1_92 rfl rfl ?_
      refine go_aloadN C (pc' := 95) d1_94 rfl rfl rfl ?_
      refine go_iloadN C (pc' := 96) d1_95 rfl rfl ?_
      refine go_iload C (pc' := 98) d1_96 rfl rfl ?_
      refine go_nstore (i := i) (v := 1) C (pc' := 99) A0 hla (by omega) d1_98 rfl ?_
      intro h1 W1
      have A1 := An.setW A0 W1
      have B1 := Ai.other B0 W1 (by omega)
      have D1 := Ai.other D0 W1 (by omega)
      have K1 := (Keep.refl h0 [a, b, kd]).wr W1 (Or.inl (List.mem_of_getElem? (i := 0) rfl))
      refine go_aloadN C (pc' := 100) d1_99 rfl rfl rfl ?_
      refine go_iloadN C (pc' := 101) d1_100 rfl rfl ?_
      refine go_iload C (pc' := 103) d1_101 rfl rfl ?_
      refine go_nstore (i := i) (v := 0) C (pc' := 104) B1 hlb (by omega) d1_103 rfl ?_
      intro h2 W2
      have A2 := Ai.other A1 W2 (by omega)
      have B2 := An.setW B1 W2
      have D2 := Ai.other D1 W2 (by omega)
      have K2 := K1.wr W2 (Or.inl (List.mem_of_getElem? (i := 1) rfl))
      refine go_aloadN C (pc' := 105) d1_104 rfl rfl rfl ?_
      refine go_iloadN C (pc' := 106) d1_105 rfl rfl ?_
      refine go_iload C (pc' := 108) d1_106 rfl rfl ?_
      refine go_nstore (i := i) (v := 0) C (pc' := 109) D2 hlk (by omega) d1_108 rfl ?_
      intro h3 W3
      have A3 := Ai.other A2 W3 (by omega)
      have B3 := Ai.other B2 W3 (by omega)
      have D3 := An.setW D2 W3
      have K3 := K2.wr W3 (Or.inl (List.mem_of_getElem? (i := 2) rfl))
      refine go_iload C (pc' := 111) d1_109 rfl rfl ?_
      refine go_iconst C (pc' := 112) (z := 3) d1_111 rfl rfl ?_
      refine go_icN C (pc' := 115) d1_112 (by decide) rfl ?_
      refine go_iconst C (pc' := 116) (z := 1) d1_115 rfl rfl ?_
      refine go_iload C (pc' := 118) d1_116 rfl rfl ?_
      refine go_ishl C (pc' := 119) d1_118 rfl ?_
      refine go_goto C (pc' := 123) d1_119 (by decide) (by decide) ?_
      refine go_retI C d1_123 (by decide) (by decide) ?_
      exact ⟨rfl, K3, A3, B3, D3⟩
  · skip
    refine go_istore C (pc' := 10) (Ls' := #[.val (.ref a), .val (.ref b), .val (.ref kd), .val (.int (Int32.ofNat i)), .val (.int sh), .val (.int en), .val (.int (Int32.ofNat 1)), .unset, .unset, .unset]) d1_8 rfl rfl ?_
    refine go_iload C (pc' := 12) d1_10 rfl rfl ?_
    refine go_ifY C (pc' := 24) d1_12 (by decide) (by decide) (by decide) ?_
    refine go_iload C (pc' := 26) d1_24 rfl rfl ?_
    refine go_iconst C (pc' := 27) (z := 1) d1_26 rfl rfl ?_
    refine go_icN C (pc' := 30) d1_27 (by decide) rfl ?_
    refine go_iconst C (pc' := 31) (z := 1) d1_30 rfl rfl ?_
    refine go_istore C (pc' := 33) (Ls' := #[.val (.ref a), .val (.ref b), .val (.ref kd), .val (.int (Int32.ofNat i)), .val (.int sh), .val (.int en), .val (.int (Int32.ofNat 1)), .val (.int (1 : Int32)), .unset, .unset]) d1_31 rfl rfl ?_
    refine go_iconst C (pc' := 34) (z := 2) d1_33 rfl rfl ?_
    refine go_istore C (pc' := 36) (Ls' := #[.val (.ref a), .val (.ref b), .val (.ref kd), .val (.int (Int32.ofNat i)), .val (.int sh), .val (.int en), .val (.int (Int32.ofNat 1)), .val (.int (1 : Int32)), .val (.int (2 : Int32)), .unset]) d1_34 rfl rfl ?_
    refine go_goto C (pc' := 70) d1_36 (by decide) (by decide) ?_
    refine go_iload C (pc' := 72) d1_70 rfl rfl ?_
    refine go_bipush C (pc' := 74) (z := 8) d1_72 rfl rfl ?_
    refine go_iloadN C (pc' := 75) d1_74 rfl rfl ?_
    refine go_iadd C (pc' := 76) d1_75 rfl ?_
    refine go_iushr C (pc' := 77) d1_76 rfl ?_
    refine go_iconst C (pc' := 78) (z := 1) d1_77 rfl rfl ?_
    refine go_iand C (pc' := 79) d1_78 rfl ?_
    rw [hs]
    rcases hs2 with rfl | rfl
    · skip
      refine go_ifY C (pc' := 94) d1_79 rfl (by decide) (by decide) ?_
      refine go_aloadN C (pc' := 95) d1_94 rfl rfl rfl ?_
      refine go_iloadN C (pc' := 96) d1_95 rfl rfl ?_
      refine go_iload C (pc' := 98) d1_96 rfl rfl ?_
      refine go_nstore (i := i) (v := 1) C (pc' := 99) A0 hla (by omega) d1_98 rfl ?_
      intro h1 W1
      have A1 := An.setW A0 W1
      have B1 := Ai.other B0 W1 (by omega)
      have D1 := Ai.other D0 W1 (by omega)
      have K1 := (Keep.refl h0 [a, b, kd]).wr W1 (Or.inl (List.mem_of_getElem? (i := 0) rfl))
      refine go_aloadN C (pc' := 100) d1_99 rfl rfl rfl ?_
      refine go_iloadN C (pc' := 101) d1_100 rfl rfl ?_
      refine go_iload C (pc' := 103) d1_101 rfl rfl ?_
      refine go_nstore (i := i) (v := 2) C (pc' := 104) B1 hlb (by omega) d1_103 rfl ?_
      intro h2 W2
      have A2 := Ai.other A1 W2 (by omega)
      have B2 := An.setW B1 W2
      have D2 := Ai.other D1 W2 (by omega)
      have K2 := K1.wr W2 (Or.inl (List.mem_of_getElem? (i := 1) rfl))
      refine go_aloadN C (pc' := 105) d1_104 rfl rfl rfl ?_
      refine go_iloadN C (pc' := 106) d1_105 rfl rfl ?_
      refine go_iload C (pc' := 108) d1_106 rfl rfl ?_
      refine go_nstore (i := i) (v := 1) C (pc' := 109) D2 hlk (by omega) d1_108 rfl ?_
      intro h3 W3
      have A3 := Ai.other A2 W3 (by omega)
      have B3 := Ai.other B2 W3 (by omega)
      have D3 := An.setW D2 W3
      have K3 := K2.wr W3 (Or.inl (List.mem_of_getElem? (i := 2) rfl))
      refine go_iload C (pc' := 111) d1_109 rfl rfl ?_
      refine go_iconst C (pc' := 112) (z := 3) d1_111 rfl rfl ?_
      refine go_icN C (pc' := 115) d1_112 (by decide) rfl ?_
      refine go_iconst C (pc' := 116) (z := 1) d1_115 rfl rfl ?_
      refine go_iload C (pc' := 118) d1_116 rfl rfl ?_
      refine go_ishl C (pc' := 119) d1_118 rfl ?_
      refine go_goto C (pc' := 123) d1_119 (by decide) (by decide) ?_
      refine go_retI C d1_123 (by decide) (by decide) ?_
      exact ⟨rfl, K3, A3, B3, D3⟩
    · skip
      refine go_ifN C (pc' := 82) d1_79 rfl rfl ?_
      refine go_iload C (pc' := 84) d1_82 rfl rfl ?_
      refine go_istore C (pc' := 86) (Ls' := #[.val (.ref a), .val (.ref b), .val (.ref kd), .val (.int (Int32.ofNat i)), .val (.int sh), .val (.int en), .val (.int (Int32.ofNat 1)), .val (.int (1 : Int32)), .val (.int (2 : Int32)), .val (.int (1 : Int32))]) d1_84 rfl rfl ?_
      refine go_iload C (pc' := 88) d1_86 rfl rfl ?_
      refine go_istore C (pc' := 90) (Ls' := #[.val (.ref a), .val (.ref b), .val (.ref kd), .val (.int (Int32.ofNat i)), .val (.int sh), .val (.int en), .val (.int (Int32.ofNat 1)), .val (.int (2 : Int32)), .val (.int (2 : Int32)), .val (.int (1 : Int32))]) d1_88 rfl rfl ?_
      refine go_iload C (pc' := 92) d1_90 rfl rfl ?_
      refine go_istore C (pc' := 94) (Ls' := #[.val (.ref a), .val (.ref b), .val (.ref kd), .val (.int (Int32.ofNat i)), .val (.int sh), .val (.int en), .val (.int (Int32.ofNat 1)), .val (.int (2 : Int32)), .val (.int (1 : Int32)), .val (.int (1 : Int32))]) d1_92 rfl rfl ?_
      refine go_aloadN C (pc' := 95) d1_94 rfl rfl rfl ?_
      refine go_iloadN C (pc' := 96) d1_95 rfl rfl ?_
      refine go_iload C (pc' := 98) d1_96 rfl rfl ?_
      refine go_nstore (i := i) (v := 2) C (pc' := 99) A0 hla (by omega) d1_98 rfl ?_
      intro h1 W1
      have A1 := An.setW A0 W1
      have B1 := Ai.other B0 W1 (by omega)
      have D1 := Ai.other D0 W1 (by omega)
      have K1 := (Keep.refl h0 [a, b, kd]).wr W1 (Or.inl (List.mem_of_getElem? (i := 0) rfl))
      refine go_aloadN C (pc' := 100) d1_99 rfl rfl rfl ?_
      refine go_iloadN C (pc' := 101) d1_100 rfl rfl ?_
      refine go_iload C (pc' := 103) d1_101 rfl rfl ?_
      refine go_nstore (i := i) (v := 1) C (pc' := 104) B1 hlb (by omega) d1_103 rfl ?_
      intro h2 W2
      have A2 := Ai.other A1 W2 (by omega)
      have B2 := An.setW B1 W2
      have D2 := Ai.other D1 W2 (by omega)
      have K2 := K1.wr W2 (Or.inl (List.mem_of_getElem? (i := 1) rfl))
      refine go_aloadN C (pc' := 105) d1_104 rfl rfl rfl ?_
      refine go_iloadN C (pc' := 106) d1_105 rfl rfl ?_
      refine go_iload C (pc' := 108) d1_106 rfl rfl ?_
      refine go_nstore (i := i) (v := 1) C (pc' := 109) D2 hlk (by omega) d1_108 rfl ?_
      intro h3 W3
      have A3 := Ai.other A2 W3 (by omega)
      have B3 := Ai.other B2 W3 (by omega)
      have D3 := An.setW D2 W3
      have K3 := K2.wr W3 (Or.inl (List.mem_of_getElem? (i := 2) rfl))
      refine go_iload C (pc' := 111) d1_109 rfl rfl ?_
      refine go_iconst C (pc' := 112) (z := 3) d1_111 rfl rfl ?_
      refine go_icN C (pc' := 115) d1_112 (by decide) rfl ?_
      refine go_iconst C (pc' := 116) (z := 1) d1_115 rfl rfl ?_
      refine go_iload C (pc' := 118) d1_116 rfl rfl ?_
      refine go_ishl C (pc' := 119) d1_118 rfl ?_
      refine go_goto C (pc' := 123) d1_119 (by decide) (by decide) ?_
      refine go_retI C d1_123 (by decide) (by decide) ?_
      exact ⟨rfl, K3, A3, B3, D3⟩
  · skip
    refine go_istore C (pc' := 10) (Ls' := #[.val (.ref a), .val (.ref b), .val (.ref kd), .val (.int (Int32.ofNat i)), .val (.int sh), .val (.int en), .val (.int (Int32.ofNat 2)), .unset, .unset, .unset]) d1_8 rfl rfl ?_
    refine go_iload C (pc' := 12) d1_10 rfl rfl ?_
    refine go_ifY C (pc' := 24) d1_12 (by decide) (by decide) (by decide) ?_
    refine go_iload C (pc' := 26) d1_24 rfl rfl ?_
    refine go_iconst C (pc' := 27) (z := 1) d1_26 rfl rfl ?_
    refine go_icY C (pc' := 39) d1_27 (by decide) (by decide) (by decide) ?_
    refine go_iload C (pc' := 41) d1_39 rfl rfl ?_
    refine go_iconst C (pc' := 42) (z := 2) d1_41 rfl rfl ?_
    refine go_icN C (pc' := 45) d1_42 (by decide) rfl ?_
    refine go_iconst C (pc' := 46) (z := 0) d1_45 rfl rfl ?_
    refine go_istore C (pc' := 48) (Ls' := #[.val (.ref a), .val (.ref b), .val (.ref kd), .val (.int (Int32.ofNat i)), .val (.int sh), .val (.int en), .val (.int (Int32.ofNat 2)), .val (.int (0 : Int32)), .unset, .unset]) d1_46 rfl rfl ?_
    refine go_iconst C (pc' := 49) (z := 2) d1_48 rfl rfl ?_
    refine go_istore C (pc' := 51) (Ls' := #[.val (.ref a), .val (.ref b), .val (.ref kd), .val (.int (Int32.ofNat i)), .val (.int sh), .val (.int en), .val (.int (Int32.ofNat 2)), .val (.int (0 : Int32)), .val (.int (2 : Int32)), .unset]) d1_49 rfl rfl ?_
    refine go_goto C (pc' := 70) d1_51 (by decide) (by decide) ?_
    refine go_iload C (pc' := 72) d1_70 rfl rfl ?_
    refine go_bipush C (pc' := 74) (z := 8) d1_72 rfl rfl ?_
    refine go_iloadN C (pc' := 75) d1_74 rfl rfl ?_
    refine go_iadd C (pc' := 76) d1_75 rfl ?_
    refine go_iushr C (pc' := 77) d1_76 rfl ?_
    refine go_iconst C (pc' := 78) (z := 1) d1_77 rfl rfl ?_
    refine go_iand C (pc' := 79) d1_78 rfl ?_
    rw [hs]
    rcases hs2 with rfl | rfl
    · skip
      refine go_ifY C (pc' := 94) d1_79 rfl (by decide) (by decide) ?_
      refine go_aloadN C (pc' := 95) d1_94 rfl rfl rfl ?_
      refine go_iloadN C (pc' := 96) d1_95 rfl rfl ?_
      refine go_iload C (pc' := 98) d1_96 rfl rfl ?_
      refine go_nstore (i := i) (v := 0) C (pc' := 99) A0 hla (by omega) d1_98 rfl ?_
      intro h1 W1
      have A1 := An.setW A0 W1
      have B1 := Ai.other B0 W1 (by omega)
      have D1 := Ai.other D0 W1 (by omega)
      have K1 := (Keep.refl h0 [a, b, kd]).wr W1 (Or.inl (List.mem_of_getElem? (i := 0) rfl))
      refine go_aloadN C (pc' := 100) d1_99 rfl rfl rfl ?_
      refine go_iloadN C (pc' := 101) d1_100 rfl rfl ?_
      refine go_iload C (pc' := 103) d1_101 rfl rfl ?_
      refine go_nstore (i := i) (v := 2) C (pc' := 104) B1 hlb (by omega) d1_103 rfl ?_
      intro h2 W2
      have A2 := Ai.other A1 W2 (by omega)
      have B2 := An.setW B1 W2
      have D2 := Ai.other D1 W2 (by omega)
      have K2 := K1.wr W2 (Or.inl (List.mem_of_getElem? (i := 1) rfl))
      refine go_aloadN C (pc' := 105) d1_104 rfl rfl rfl ?_
      refine go_iloadN C (pc' := 106) d1_105 rfl rfl ?_
      refine go_iload C (pc' := 108) d1_106 rfl rfl ?_
      refine go_nstore (i := i) (v := 2) C (pc' := 109) D2 hlk (by omega) d1_108 rfl ?_
      intro h3 W3
      have A3 := Ai.other A2 W3 (by omega)
      have B3 := Ai.other B2 W3 (by omega)
      have D3 := An.setW D2 W3
      have K3 := K2.wr W3 (Or.inl (List.mem_of_getElem? (i := 2) rfl))
      refine go_iload C (pc' := 111) d1_109 rfl rfl ?_
      refine go_iconst C (pc' := 112) (z := 3) d1_111 rfl rfl ?_
      refine go_icN C (pc' := 115) d1_112 (by decide) rfl ?_
      refine go_iconst C (pc' := 116) (z := 1) d1_115 rfl rfl ?_
      refine go_iload C (pc' := 118) d1_116 rfl rfl ?_
      refine go_ishl C (pc' := 119) d1_118 rfl ?_
      refine go_goto C (pc' := 123) d1_119 (by decide) (by decide) ?_
      refine go_retI C d1_123 (by decide) (by decide) ?_
      exact ⟨rfl, K3, A3, B3, D3⟩
    · skip
      refine go_ifN C (pc' := 82) d1_79 rfl rfl ?_
      refine go_iload C (pc' := 84) d1_82 rfl rfl ?_
      refine go_istore C (pc' := 86) (Ls' := #[.val (.ref a), .val (.ref b), .val (.ref kd), .val (.int (Int32.ofNat i)), .val (.int sh), .val (.int en), .val (.int (Int32.ofNat 2)), .val (.int (0 : Int32)), .val (.int (2 : Int32)), .val (.int (0 : Int32))]) d1_84 rfl rfl ?_
      refine go_iload C (pc' := 88) d1_86 rfl rfl ?_
      refine go_istore C (pc' := 90) (Ls' := #[.val (.ref a), .val (.ref b), .val (.ref kd), .val (.int (Int32.ofNat i)), .val (.int sh), .val (.int en), .val (.int (Int32.ofNat 2)), .val (.int (2 : Int32)), .val (.int (2 : Int32)), .val (.int (0 : Int32))]) d1_88 rfl rfl ?_
      refine go_iload C (pc' := 92) d1_90 rfl rfl ?_
      refine go_istore C (pc' := 94) (Ls' := #[.val (.ref a), .val (.ref b), .val (.ref kd), .val (.int (Int32.ofNat i)), .val (.int sh), .val (.int en), .val (.int (Int32.ofNat 2)), .val (.int (2 : Int32)), .val (.int (0 : Int32)), .val (.int (0 : Int32))]) d1_92 rfl rfl ?_
      refine go_aloadN C (pc' := 95) d1_94 rfl rfl rfl ?_
      refine go_iloadN C (pc' := 96) d1_95 rfl rfl ?_
      refine go_iload C (pc' := 98) d1_96 rfl rfl ?_
      refine go_nstore (i := i) (v := 2) C (pc' := 99) A0 hla (by omega) d1_98 rfl ?_
      intro h1 W1
      have A1 := An.setW A0 W1
      have B1 := Ai.other B0 W1 (by omega)
      have D1 := Ai.other D0 W1 (by omega)
      have K1 := (Keep.refl h0 [a, b, kd]).wr W1 (Or.inl (List.mem_of_getElem? (i := 0) rfl))
      refine go_aloadN C (pc' := 100) d1_99 rfl rfl rfl ?_
      refine go_iloadN C (pc' := 101) d1_100 rfl rfl ?_
      refine go_iload C (pc' := 103) d1_101 rfl rfl ?_
      refine go_nstore (i := i) (v := 0) C (pc' := 104) B1 hlb (by omega) d1_103 rfl ?_
      intro h2 W2
      have A2 := Ai.other A1 W2 (by omega)
      have B2 := An.setW B1 W2
      have D2 := Ai.other D1 W2 (by omega)
      have K2 := K1.wr W2 (Or.inl (List.mem_of_getElem? (i := 1) rfl))
      refine go_aloadN C (pc' := 105) d1_104 rfl rfl rfl ?_
      refine go_iloadN C (pc' := 106) d1_105 rfl rfl ?_
      refine go_iload C (pc' := 108) d1_106 rfl rfl ?_
      refine go_nstore (i := i) (v := 2) C (pc' := 109) D2 hlk (by omega) d1_108 rfl ?_
      intro h3 W3
      have A3 := Ai.other A2 W3 (by omega)
      have B3 := Ai.other B2 W3 (by omega)
      have D3 := An.setW D2 W3
      have K3 := K2.wr W3 (Or.inl (List.mem_of_getElem? (i := 2) rfl))
      refine go_iload C (pc' := 111) d1_109 rfl rfl ?_
      refine go_iconst C (pc' := 112) (z := 3) d1_111 rfl rfl ?_
      refine go_icN C (pc' := 115) d1_112 (by decide) rfl ?_
      refine go_iconst C (pc' := 116) (z := 1) d1_115 rfl rfl ?_
      refine go_iload C (pc' := 118) d1_116 rfl rfl ?_
      refine go_ishl C (pc' := 119) d1_118 rfl ?_
      refine go_goto C (pc' := 123) d1_119 (by decide) (by decide) ?_
      refine go_retI C d1_123 (by decide) (by decide) ?_
      exact ⟨rfl, K3, A3, B3, D3⟩
  · skip
    refine go_istore C (pc' := 10) (Ls' := #[.val (.ref a), .val (.ref b), .val (.ref kd), .val (.int (Int32.ofNat i)), .val (.int sh), .val (.int en), .val (.int (Int32.ofNat 3)), .unset, .unset, .unset]) d1_8 rfl rfl ?_
    refine go_iload C (pc' := 12) d1_10 rfl rfl ?_
    refine go_ifY C (pc' := 24) d1_12 (by decide) (by decide) (by decide) ?_
    refine go_iload C (pc' := 26) d1_24 rfl rfl ?_
    refine go_iconst C (pc' := 27) (z := 1) d1_26 rfl rfl ?_
    refine go_icY C (pc' := 39) d1_27 (by decide) (by decide) (by decide) ?_
    refine go_iload C (pc' := 41) d1_39 rfl rfl ?_
    refine go_iconst C (pc' := 42) (z := 2) d1_41 rfl rfl ?_
    refine go_icY C (pc' := 54) d1_42 (by decide) (by decide) (by decide) ?_
    refine go_iload C (pc' := 56) d1_54 rfl rfl ?_
    refine go_iconst C (pc' := 57) (z := 2) d1_56 rfl rfl ?_
    refine go_iloadN C (pc' := 58) d1_57 rfl rfl ?_
    refine go_imul C (pc' := 59) d1_58 rfl ?_
    refine go_iushr C (pc' := 60) d1_59 rfl ?_
    refine go_iconst C (pc' := 61) (z := 3) d1_60 rfl rfl ?_
    refine go_iand C (pc' := 62) d1_61 rfl ?_
    rw [hww]
    refine go_iconst C (pc' := 63) (z := 3) d1_62 rfl rfl ?_
    refine go_irem C (pc' := 64) d1_63 (by decide) rfl ?_
    rw [rem3 ⟨w, hw4⟩]
    refine go_istore C (pc' := 66) (Ls' := #[.val (.ref a), .val (.ref b), .val (.ref kd), .val (.int (Int32.ofNat i)), .val (.int sh), .val (.int en), .val (.int (Int32.ofNat 3)), .val (.int (Int32.ofNat (w % 3))), .unset, .unset]) d1_64 rfl rfl ?_
    refine go_iload C (pc' := 68) d1_66 rfl rfl ?_
    refine go_istore C (pc' := 70) (Ls' := #[.val (.ref a), .val (.ref b), .val (.ref kd), .val (.int (Int32.ofNat i)), .val (.int sh), .val (.int en), .val (.int (Int32.ofNat 3)), .val (.int (Int32.ofNat (w % 3))), .val (.int (Int32.ofNat (w % 3))), .unset]) d1_68 rfl rfl ?_
    refine go_iload C (pc' := 72) d1_70 rfl rfl ?_
    refine go_bipush C (pc' := 74) (z := 8) d1_72 rfl rfl ?_
    refine go_iloadN C (pc' := 75) d1_74 rfl rfl ?_
    refine go_iadd C (pc' := 76) d1_75 rfl ?_
    refine go_iushr C (pc' := 77) d1_76 rfl ?_
    refine go_iconst C (pc' := 78) (z := 1) d1_77 rfl rfl ?_
    refine go_iand C (pc' := 79) d1_78 rfl ?_
    rw [hs]
    rcases hs2 with rfl | rfl
    · skip
      refine go_ifY C (pc' := 94) d1_79 rfl (by decide) (by decide) ?_
      refine go_aloadN C (pc' := 95) d1_94 rfl rfl rfl ?_
      refine go_iloadN C (pc' := 96) d1_95 rfl rfl ?_
      refine go_iload C (pc' := 98) d1_96 rfl rfl ?_
      refine go_nstore (i := i) (v := (w % 3)) C (pc' := 99) A0 hla (by omega) d1_98 rfl ?_
      intro h1 W1
      have A1 := An.setW A0 W1
      have B1 := Ai.other B0 W1 (by omega)
      have D1 := Ai.other D0 W1 (by omega)
      have K1 := (Keep.refl h0 [a, b, kd]).wr W1 (Or.inl (List.mem_of_getElem? (i := 0) rfl))
      refine go_aloadN C (pc' := 100) d1_99 rfl rfl rfl ?_
      refine go_iloadN C (pc' := 101) d1_100 rfl rfl ?_
      refine go_iload C (pc' := 103) d1_101 rfl rfl ?_
      refine go_nstore (i := i) (v := (w % 3)) C (pc' := 104) B1 hlb (by omega) d1_103 rfl ?_
      intro h2 W2
      have A2 := Ai.other A1 W2 (by omega)
      have B2 := An.setW B1 W2
      have D2 := Ai.other D1 W2 (by omega)
      have K2 := K1.wr W2 (Or.inl (List.mem_of_getElem? (i := 1) rfl))
      refine go_aloadN C (pc' := 105) d1_104 rfl rfl rfl ?_
      refine go_iloadN C (pc' := 106) d1_105 rfl rfl ?_
      refine go_iload C (pc' := 108) d1_106 rfl rfl ?_
      refine go_nstore (i := i) (v := 3) C (pc' := 109) D2 hlk (by omega) d1_108 rfl ?_
      intro h3 W3
      have A3 := Ai.other A2 W3 (by omega)
      have B3 := Ai.other B2 W3 (by omega)
      have D3 := An.setW D2 W3
      have K3 := K2.wr W3 (Or.inl (List.mem_of_getElem? (i := 2) rfl))
      refine go_iload C (pc' := 111) d1_109 rfl rfl ?_
      refine go_iconst C (pc' := 112) (z := 3) d1_111 rfl rfl ?_
      refine go_icY C (pc' := 122) d1_112 (by decide) (by decide) (by decide) ?_
      refine go_iconst C (pc' := 123) (z := 0) d1_122 rfl rfl ?_
      refine go_retI C d1_123 (by decide) (by decide) ?_
      exact ⟨rfl, K3, A3, B3, D3⟩
    · skip
      refine go_ifN C (pc' := 82) d1_79 rfl rfl ?_
      refine go_iload C (pc' := 84) d1_82 rfl rfl ?_
      refine go_istore C (pc' := 86) (Ls' := #[.val (.ref a), .val (.ref b), .val (.ref kd), .val (.int (Int32.ofNat i)), .val (.int sh), .val (.int en), .val (.int (Int32.ofNat 3)), .val (.int (Int32.ofNat (w % 3))), .val (.int (Int32.ofNat (w % 3))), .val (.int (Int32.ofNat (w % 3)))]) d1_84 rfl rfl ?_
      refine go_iload C (pc' := 88) d1_86 rfl rfl ?_
      refine go_istore C (pc' := 90) (Ls' := #[.val (.ref a), .val (.ref b), .val (.ref kd), .val (.int (Int32.ofNat i)), .val (.int sh), .val (.int en), .val (.int (Int32.ofNat 3)), .val (.int (Int32.ofNat (w % 3))), .val (.int (Int32.ofNat (w % 3))), .val (.int (Int32.ofNat (w % 3)))]) d1_88 rfl rfl ?_
      refine go_iload C (pc' := 92) d1_90 rfl rfl ?_
      refine go_istore C (pc' := 94) (Ls' := #[.val (.ref a), .val (.ref b), .val (.ref kd), .val (.int (Int32.ofNat i)), .val (.int sh), .val (.int en), .val (.int (Int32.ofNat 3)), .val (.int (Int32.ofNat (w % 3))), .val (.int (Int32.ofNat (w % 3))), .val (.int (Int32.ofNat (w % 3)))]) d1_92 rfl rfl ?_
      refine go_aloadN C (pc' := 95) d1_94 rfl rfl rfl ?_
      refine go_iloadN C (pc' := 96) d1_95 rfl rfl ?_
      refine go_iload C (pc' := 98) d1_96 rfl rfl ?_
      refine go_nstore (i := i) (v := (w % 3)) C (pc' := 99) A0 hla (by omega) d1_98 rfl ?_
      intro h1 W1
      have A1 := An.setW A0 W1
      have B1 := Ai.other B0 W1 (by omega)
      have D1 := Ai.other D0 W1 (by omega)
      have K1 := (Keep.refl h0 [a, b, kd]).wr W1 (Or.inl (List.mem_of_getElem? (i := 0) rfl))
      refine go_aloadN C (pc' := 100) d1_99 rfl rfl rfl ?_
      refine go_iloadN C (pc' := 101) d1_100 rfl rfl ?_
      refine go_iload C (pc' := 103) d1_101 rfl rfl ?_
      refine go_nstore (i := i) (v := (w % 3)) C (pc' := 104) B1 hlb (by omega) d1_103 rfl ?_
      intro h2 W2
      have A2 := Ai.other A1 W2 (by omega)
      have B2 := An.setW B1 W2
      have D2 := Ai.other D1 W2 (by omega)
      have K2 := K1.wr W2 (Or.inl (List.mem_of_getElem? (i := 1) rfl))
      refine go_aloadN C (pc' := 105) d1_104 rfl rfl rfl ?_
      refine go_iloadN C (pc' := 106) d1_105 rfl rfl ?_
      refine go_iload C (pc' := 108) d1_106 rfl rfl ?_
      refine go_nstore (i := i) (v := 3) C (pc' := 109) D2 hlk (by omega) d1_108 rfl ?_
      intro h3 W3
      have A3 := Ai.other A2 W3 (by omega)
      have B3 := Ai.other B2 W3 (by omega)
      have D3 := An.setW D2 W3
      have K3 := K2.wr W3 (Or.inl (List.mem_of_getElem? (i := 2) rfl))
      refine go_iload C (pc' := 111) d1_109 rfl rfl ?_
      refine go_iconst C (pc' := 112) (z := 3) d1_111 rfl rfl ?_
      refine go_icY C (pc' := 122) d1_112 (by decide) (by decide) (by decide) ?_
      refine go_iconst C (pc' := 123) (z := 0) d1_122 rfl rfl ?_
      refine go_retI C d1_123 (by decide) (by decide) ?_
      exact ⟨rfl, K3, A3, B3, D3⟩
def Cs (Z : State) (h : Heap) (ia ib ie c A B D P f pa sa ha il : Nat) (lsv : Value) (xa xb xe : List Nat) (S : PLC) (u : UFS) (yl : List Nat) : Prop :=
  CF Z h c (.int 3) (.ref A) (.ref B) (.ref D) (.ref P) lsv (.ref f) .null (.int (Int32.ofNat 0 - 1)) .null (.int (Int32.ofNat 0)) ∧ An Z h A .int S.1 ∧ An Z h B .int S.2.1 ∧ An Z h D .int S.2.2.1 ∧ An Z h P .int S.2.2.2 ∧ Uf Z h f pa sa ha u ∧ An Z h il .boolean yl ∧ An Z h ia .int xa ∧ An Z h ib .int xb ∧ An Z h ie .int xe ∧ ia < ib ∧ ib < ie ∧ ie < c ∧ c < A ∧ A < B ∧ B < D ∧ D < P ∧ P < f ∧ f < pa ∧ pa < sa ∧ sa < ha ∧ ha < il
section CsLaws
variable {Z : State} {h h' : Heap} {ia ib ie c A B D P f pa sa ha il : Nat} {lsv : Value} {xa xb xe : List Nat} {sa1 sb1 sd1 sp1 : List Nat} {u : UFS} {yl : List Nat}
theorem Cs.wA {i v : Nat} (F : Cs Z h ia ib ie c A B D P f pa sa ha il lsv xa xb xe (sa1, sb1, sd1, sp1) u yl) (W : Wr h h' A i (.int (Int32.ofNat v))) : Cs Z h' ia ib ie c A B D P f pa sa ha il lsv xa xb xe (sa1.set i v, sb1, sd1, sp1) u yl := by
  obtain ⟨f1, f2, f3, f4, f5, f6, f7, f8, f9, f10, r1, r2, r3, r4, r5, r6, r7, r8, r9, r10, r11, r12⟩ := F
  exact ⟨f1.other W (by omega), An.setW f2 W, Ai.other f3 W (by omega), Ai.other f4 W (by omega), Ai.other f5 W (by omega), f6.other W (by omega) (by omega) (by omega) (by omega), Ai.other f7 W (by omega), Ai.other f8 W (by omega), Ai.other f9 W (by omega), Ai.other f10 W (by omega), r1, r2, r3, r4, r5, r6, r7, r8, r9, r10, r11, r12⟩
theorem Cs.wB {i v : Nat} (F : Cs Z h ia ib ie c A B D P f pa sa ha il lsv xa xb xe (sa1, sb1, sd1, sp1) u yl) (W : Wr h h' B i (.int (Int32.ofNat v))) : Cs Z h' ia ib ie c A B D P f pa sa ha il lsv xa xb xe (sa1, sb1.set i v, sd1, sp1) u yl := by
  obtain ⟨f1, f2, f3, f4, f5, f6, f7, f8, f9, f10, r1, r2, r3, r4, r5, r6, r7, r8, r9, r10, r11, r12⟩ := F
  exact ⟨f1.other W (by omega), Ai.other f2 W (by omega), An.setW f3 W, Ai.other f4 W (by omega), Ai.other f5 W (by omega), f6.other W (by omega) (by omega) (by omega) (by omega), Ai.other f7 W (by omega), Ai.other f8 W (by omega), Ai.other f9 W (by omega), Ai.other f10 W (by omega), r1, r2, r3, r4, r5, r6, r7, r8, r9, r10, r11, r12⟩
theorem Cs.wD {i v : Nat} (F : Cs Z h ia ib ie c A B D P f pa sa ha il lsv xa xb xe (sa1, sb1, sd1, sp1) u yl) (W : Wr h h' D i (.int (Int32.ofNat v))) : Cs Z h' ia ib ie c A B D P f pa sa ha il lsv xa xb xe (sa1, sb1, sd1.set i v, sp1) u yl := by
  obtain ⟨f1, f2, f3, f4, f5, f6, f7, f8, f9, f10, r1, r2, r3, r4, r5, r6, r7, r8, r9, r10, r11, r12⟩ := F
  exact ⟨f1.other W (by omega), Ai.other f2 W (by omega), Ai.other f3 W (by omega), An.setW f4 W, Ai.other f5 W (by omega), f6.other W (by omega) (by omega) (by omega) (by omega), Ai.other f7 W (by omega), Ai.other f8 W (by omega), Ai.other f9 W (by omega), Ai.other f10 W (by omega), r1, r2, r3, r4, r5, r6, r7, r8, r9, r10, r11, r12⟩
theorem Cs.wP {i v : Nat} (F : Cs Z h ia ib ie c A B D P f pa sa ha il lsv xa xb xe (sa1, sb1, sd1, sp1) u yl) (W : Wr h h' P i (.int (Int32.ofNat v))) : Cs Z h' ia ib ie c A B D P f pa sa ha il lsv xa xb xe (sa1, sb1, sd1, sp1.set i v) u yl := by
  obtain ⟨f1, f2, f3, f4, f5, f6, f7, f8, f9, f10, r1, r2, r3, r4, r5, r6, r7, r8, r9, r10, r11, r12⟩ := F
  exact ⟨f1.other W (by omega), Ai.other f2 W (by omega), Ai.other f3 W (by omega), Ai.other f4 W (by omega), An.setW f5 W, f6.other W (by omega) (by omega) (by omega) (by omega), Ai.other f7 W (by omega), Ai.other f8 W (by omega), Ai.other f9 W (by omega), Ai.other f10 W (by omega), r1, r2, r3, r4, r5, r6, r7, r8, r9, r10, r11, r12⟩
theorem Cs.wL {i v : Nat} (F : Cs Z h ia ib ie c A B D P f pa sa ha il lsv xa xb xe (sa1, sb1, sd1, sp1) u yl) (W : Wr h h' il i (.int (Int32.ofNat v))) : Cs Z h' ia ib ie c A B D P f pa sa ha il lsv xa xb xe (sa1, sb1, sd1, sp1) u (yl.set i v) := by
  obtain ⟨f1, f2, f3, f4, f5, f6, f7, f8, f9, f10, r1, r2, r3, r4, r5, r6, r7, r8, r9, r10, r11, r12⟩ := F
  exact ⟨f1.other W (by omega), Ai.other f2 W (by omega), Ai.other f3 W (by omega), Ai.other f4 W (by omega), Ai.other f5 W (by omega), f6.other W (by omega) (by omega) (by omega) (by omega), An.setW f7 W, Ai.other f8 W (by omega), Ai.other f9 W (by omega), Ai.other f10 W (by omega), r1, r2, r3, r4, r5, r6, r7, r8, r9, r10, r11, r12⟩
theorem Cs.wS {a0 : Array Value} (hw : ∀ d ∈ tables_1, d.before a0 Z = true) {w : Value} (F : Cs Z h ia ib ie c A B D P f pa sa ha il lsv xa xb xe (sa1, sb1, sd1, sp1) u yl) (W : Wr h h' c (Jvm.RoadKit.slotOf Z "com/example/joinweave/joinweave/graph/CoreTrees" "lastTreeStart" "I") w) : Cs Z h' ia ib ie c A B D P f pa sa ha il w xa xb xe (sa1, sb1, sd1, sp1) u yl := by
  obtain ⟨f1, f2, f3, f4, f5, f6, f7, f8, f9, f10, r1, r2, r3, r4, r5, r6, r7, r8, r9, r10, r11, r12⟩ := F
  exact ⟨f1.w_lastTreeStart hw W, Ai.other f2 W (by omega), Ai.other f3 W (by omega), Ai.other f4 W (by omega), Ai.other f5 W (by omega), f6.other W (by omega) (by omega) (by omega) (by omega), Ai.other f7 W (by omega), Ai.other f8 W (by omega), Ai.other f9 W (by omega), Ai.other f10 W (by omega), r1, r2, r3, r4, r5, r6, r7, r8, r9, r10, r11, r12⟩
theorem Cs.wF {u' : UFS} (F : Cs Z h ia ib ie c A B D P f pa sa ha il lsv xa xb xe (sa1, sb1, sd1, sp1) u yl) (K : Keep h h' [f, pa, sa, ha]) (U : Uf Z h' f pa sa ha u') : Cs Z h' ia ib ie c A B D P f pa sa ha il lsv xa xb xe (sa1, sb1, sd1, sp1) u' yl := by
  obtain ⟨f1, f2, f3, f4, f5, f6, f7, f8, f9, f10, r1, r2, r3, r4, r5, r6, r7, r8, r9, r10, r11, r12⟩ := F
  have q : ∀ x : Nat, (x < f ∨ ha < x) → x ∉ [f, pa, sa, ha] := fun x hx => nin4 (by omega) (by omega) (by omega) (by omega)
  exact ⟨f1.keep K (q _ (by omega)), Ai.keep f2 K (q _ (by omega)), Ai.keep f3 K (q _ (by omega)), Ai.keep f4 K (q _ (by omega)), Ai.keep f5 K (q _ (by omega)), U, Ai.keep f7 K (q _ (by omega)), Ai.keep f8 K (q _ (by omega)), Ai.keep f9 K (q _ (by omega)), Ai.keep f10 K (q _ (by omega)), r1, r2, r3, r4, r5, r6, r7, r8, r9, r10, r11, r12⟩
end CsLaws
theorem mem4o {h : Heap} {f pa sa ha : Nat} {ws : List Nat} (h1 : h.size ≤ f) (h2 : h.size ≤ pa) (h3 : h.size ≤ sa) (h4 : h.size ≤ ha) : ∀ x ∈ [f, pa, sa, ha], x ∈ ws ∨ h.size ≤ x := by
  intro x hx
  refine Or.inr ?_
  simp only [List.mem_cons, List.not_mem_nil, or_false] at hx
  rcases hx with rfl | rfl | rfl | rfl <;> assumption
def QC (Z : State) (h0 : Heap) (c : Nat) (p : PLC) (u : UFS) (v : Option Value) (h : Heap) : Prop := v = none ∧ ∃ A B D P f pa sa ha CH TK : Nat, h0.size ≤ A ∧ Keep h0 h [c] ∧ Ct Z h c A B D P f pa sa ha CH TK p.1 p.2.1 p.2.2.1 p.2.2.2 2 u [0, 0, 0, 0] [0, 0] 0 0
set_option maxRecDepth 65536 in
set_option maxHeartbeats 4000000 in
theorem ctE (Z : State) (a0 : Array Value) (hw : ∀ d ∈ tables_1, d.before a0 Z = true) (E : Noise) (C : Cx E Z "com/example/joinweave/joinweave/graph/CoreTrees" "<init>" prog_138_method_1_code 10 none) (ia ib ie c A B D P f pa sa ha il : Nat) (xa xb xe : List Nat) (p9 : PLC) (u9 : UFS) (h0 : Heap) (n0 : Nat) (gc : n0 ≤ c) (gh : h0.size ≤ A) (hx4 : xa.length = 4) (yl : List Nat) (s6 s7 s8 s9 : Slot) (h : Heap) (T : Cs Z h ia ib ie c A B D P f pa sa ha il (.int (Int32.ofNat 2)) xa xb xe p9 u9 yl) (K : Keep h0 h [c]) : Go E RCt n0 (QC Z h0 c p9 u9) h 9 32 225 #[.val (.ref c), .val (.int (3 : Int32)), .val (.ref ia), .val (.ref ib), .val (.ref ie), .val (.ref il), s6, s7, s8, s9] [] := by
  obtain ⟨FF, fA, fB, fD, fP, UU, fl, fia, fib, fie, r1, r2, r3, r4, r5, r6, r7, r8, r9, r10, r11, r12⟩ := T
  have t0_ := Ai.lt fl
  refine go_aloadN C (pc' := 226) d2_225 rfl rfl rfl ?_
  refine go_aloadN C (pc' := 227) d2_226 rfl rfl rfl ?_
  refine go_nalen C (pc' := 228) fia d2_227 rfl ?_
  rw [hx4]
  refine go_nnew C (aty := .byte) (z := 4) (pc' := 230) (k' := 10) (n' := 36) (own_w hw (i := 65) rfl) rfl (by decide) d2_228 rfl rfl (by decide) (by decide) rfl ?_
  intro h1_ x1_ B1_
  obtain ⟨CH, eCH⟩ : ∃ q, q = h.size := ⟨_, rfl⟩
  rw [← eCH] at B1_ ⊢
  have z1_ := x1_.1
  have t1_ := Ai.lt B1_
  have K1_ := K.ext x1_
  replace FF := FF.ext x1_
  replace fA := Ai.ext fA x1_
  replace fB := Ai.ext fB x1_
  replace fD := Ai.ext fD x1_
  replace fP := Ai.ext fP x1_
  replace UU := UU.ext x1_
  replace fia := Ai.ext fia x1_
  have fCH := B1_
  refine go_putF C (pc' := 233) (ty := (.array .byte)) (own_w hw (i := 66) rfl) (FF.2.2.2.2.2.2.2.2.1) FF.1 (Or.inr ⟨(own_w hw (i := 67) rfl), rfl, rfl⟩) (own_w hw (i := 6) rfl) (by decide) rfl rfl gc d2_230 rfl ?_
  intro h2_ W2_
  have z2_ := W2_.size
  replace FF := FF.w_choice hw W2_
  have K2_ := K1_.wr W2_ (Or.inl (List.mem_singleton.mpr rfl))
  replace fA := Ai.other fA W2_ (by omega)
  replace fB := Ai.other fB W2_ (by omega)
  replace fD := Ai.other fD W2_ (by omega)
  replace fP := Ai.other fP W2_ (by omega)
  replace UU := UU.other W2_ (by omega) (by omega) (by omega) (by omega)
  replace fia := Ai.other fia W2_ (by omega)
  replace fCH := Ai.other fCH W2_ (by omega)
  refine go_aloadN C (pc' := 234) d2_233 rfl rfl rfl ?_
  refine go_iloadN C (pc' := 235) d2_234 rfl rfl ?_
  refine go_iconst C (pc' := 236) (z := 1) d2_235 rfl rfl ?_
  refine go_isub C (pc' := 237) d2_236 rfl ?_
  show Go E RCt n0 (QC Z h0 c p9 u9) h2_ 10 36 237 #[.val (.ref c), .val (.int (3 : Int32)), .val (.ref ia), .val (.ref ib), .val (.ref ie), .val (.ref il), s6, s7, s8, s9] [(.int (2 : Int32)), (.ref c)]
  refine go_nnew C (aty := .int) (z := 2) (pc' := 239) (k' := 11) (n' := 38) (own_w hw (i := 0) rfl) rfl (by decide) d2_237 rfl rfl (by decide) (by decide) rfl ?_
  intro h3_ x3_ B3_
  obtain ⟨TK, eTK⟩ : ∃ q, q = h2_.size := ⟨_, rfl⟩
  rw [← eTK] at B3_ ⊢
  have z3_ := x3_.1
  have t3_ := Ai.lt B3_
  have K3_ := K2_.ext x3_
  replace FF := FF.ext x3_
  replace fA := Ai.ext fA x3_
  replace fB := Ai.ext fB x3_
  replace fD := Ai.ext fD x3_
  replace fP := Ai.ext fP x3_
  replace UU := UU.ext x3_
  replace fia := Ai.ext fia x3_
  replace fCH := Ai.ext fCH x3_
  have fTK := B3_
  refine go_putF C (pc' := 242) (ty := (.array .int)) (own_w hw (i := 68) rfl) (FF.2.2.2.2.2.2.2.2.2.2.1) FF.1 (Or.inr ⟨(own_w hw (i := 69) rfl), rfl, rfl⟩) (own_w hw (i := 6) rfl) (by decide) rfl rfl gc d2_239 rfl ?_
  intro h4_ W4_
  have z4_ := W4_.size
  replace FF := FF.w_taken hw W4_
  have K4_ := K3_.wr W4_ (Or.inl (List.mem_singleton.mpr rfl))
  replace fA := Ai.other fA W4_ (by omega)
  replace fB := Ai.other fB W4_ (by omega)
  replace fD := Ai.other fD W4_ (by omega)
  replace fP := Ai.other fP W4_ (by omega)
  replace UU := UU.other W4_ (by omega) (by omega) (by omega) (by omega)
  replace fia := Ai.other fia W4_ (by omega)
  replace fCH := Ai.other fCH W4_ (by omega)
  replace fTK := Ai.other fTK W4_ (by omega)
  refine go_retV C d2_242 (by decide) (by decide) ?_
  exact ⟨rfl, A, B, D, P, f, pa, sa, ha, CH, TK, gh, K4_, FF, fA, fB, fD, fP, fCH, fTK, UU, by omega, by omega, by omega, by omega, by omega, by omega, by omega, by omega, by omega, by omega⟩
set_option maxRecDepth 65536 in
set_option maxHeartbeats 4000000 in
theorem loopC3 (Z : State) (a0 : Array Value) (hw : ∀ d ∈ tables_1, d.before a0 Z = true) (E : Noise) (C : Cx E Z "com/example/joinweave/joinweave/graph/CoreTrees" "<init>" prog_138_method_1_code 10 none) (ia ib ie c A B D P f pa sa ha il : Nat) (xa xb xe : List Nat) (p9 : PLC) (u9 : UFS) (h0 : Heap) (n0 : Nat) (gc : n0 ≤ c) (gh : h0.size ≤ A) (hx4 : xa.length = 4) (xl : List Nat) : ∀ (g i be af : Nat) (S : PLC) (X : Slot) (h : Heap), i ≤ 4 → (X = .unset ∨ ∃ z : Int32, X = .val (.int z)) → placeF xa xb xe xl g i be af S = some p9 → Cs Z h ia ib ie c A B D P f pa sa ha il (.int (Int32.ofNat 2)) xa xb xe S u9 xl → Keep h0 h [c] → Go E RCt n0 (QC Z h0 c p9 u9) h 9 32 146 #[.val (.ref c), .val (.int (3 : Int32)), .val (.ref ia), .val (.ref ib), .val (.ref ie), .val (.ref il), .val (.int (Int32.ofNat be)), .val (.int (Int32.ofNat af)), .val (.int (Int32.ofNat i)), X] [] := by
  intro g
  induction g with
  | zero => intro i be af S X h hi4 hX hr; cases hr
  | succ g ih =>
    intro i be af S X h hi4 hX hr T K
    obtain ⟨la1, lb1, ld1, lp1⟩ := S
    have ord := T.2.2.2.2.2.2.2.2.2.2
    have smX := An.small T.2.2.2.2.2.2.2.1
    unfold placeF at hr
    dsimp only at hr
    by_cases c0 : i < xa.length
    · rw [if_pos c0] at hr
      cases hl1 : xl[i]? with
      | none => rw [hl1] at hr; cases hr
      | some r =>
        rw [hl1] at hr
        dsimp only at hr
        cases ha1 : xa[i]? with
        | none => rw [ha1] at hr; cases hr
        | some va =>
          rw [ha1] at hr
          dsimp only at hr
          cases hb1 : xb[i]? with
          | none => rw [hb1] at hr; cases hr
          | some vb =>
            rw [hb1] at hr
            dsimp only at hr
            cases he1 : xe[i]? with
            | none => rw [he1] at hr; cases hr
            | some ve =>
              rw [he1] at hr
              dsimp only at hr
              have hinc : Int32.ofNat i + (1 : Int32) = Int32.ofNat (i + 1) := i_add i 1
              have hinb : Int32.ofNat be + (1 : Int32) = Int32.ofNat (be + 1) := i_add be 1
              have hina : Int32.ofNat af + (1 : Int32) = Int32.ofNat (af + 1) := i_add af 1
              refine go_iload C (pc' := 148) d2_146 rfl rfl ?_
              refine go_aloadN C (pc' := 149) d2_148 rfl rfl rfl ?_
              refine go_nalen C (pc' := 150) (T.2.2.2.2.2.2.2.1) d2_149 rfl ?_
              refine go_icN C (pc' := 153) d2_150 (Bool.eq_false_iff.mpr fun q => by have q2 : (Int32.ofNat xa.length).toInt ≤ (Int32.ofNat i).toInt := (rel_holds .ge _ _).mp q; rw [nat_i (by omega), nat_i (by omega)] at q2; omega) rfl ?_
              refine go_aload C (pc' := 155) d2_153 rfl rfl rfl ?_
              refine go_iload C (pc' := 157) d2_155 rfl rfl ?_
              refine go_nloadZ C (pc' := 158) (T.2.2.2.2.2.2.1) hl1 d2_157 rfl ?_
              by_cases c1 : be < la1.length ∧ be < lb1.length ∧ be < ld1.length ∧ i < lp1.length ∧ r = 0
              · rw [if_pos c1] at hr
                obtain ⟨q1, q2, q3, q4, rfl⟩ := c1
                refine go_ifY C (pc' := 169) d2_158 rfl (by decide) (by decide) ?_
                refine go_iload C (pc' := 171) d2_169 rfl rfl ?_
                refine go_iinc C (pc' := 174) (z := 1) (Ls' := #[.val (.ref c), .val (.int (3 : Int32)), .val (.ref ia), .val (.ref ib), .val (.ref ie), .val (.ref il), .val (.int (Int32.ofNat (be + 1))), .val (.int (Int32.ofNat af)), .val (.int (Int32.ofNat i)), X]) d2_171 rfl rfl (by rw [hinb]; rfl) rfl ?_
                refine go_istore C (pc' := 176) (Ls' := #[.val (.ref c), .val (.int (3 : Int32)), .val (.ref ia), .val (.ref ib), .val (.ref ie), .val (.ref il), .val (.int (Int32.ofNat (be + 1))), .val (.int (Int32.ofNat af)), .val (.int (Int32.ofNat i)), .val (.int (Int32.ofNat be))]) d2_174 (by rcases hX with rfl | ⟨z, rfl⟩ <;> rfl) rfl ?_
                refine go_aloadN C (pc' := 177) d2_176 rfl rfl rfl ?_
                refine go_getF C (pc' := 180) (own_w hw (i := 18) rfl) T.1.2.2.1 d2_177 rfl ?_
                refine go_iload C (pc' := 182) d2_180 rfl rfl ?_
                refine go_aloadN C (pc' := 183) d2_182 rfl rfl rfl ?_
                refine go_iload C (pc' := 185) d2_183 rfl rfl ?_
                refine go_nload C (pc' := 186) (T.2.2.2.2.2.2.2.1) ha1 d2_185 rfl ?_
                refine go_nstore C (pc' := 187) (T.2.1) q1 (by omega) d2_186 rfl ?_
                intro h1_ W1_
                have T1_ := T.wA W1_
                have K1_ := keep_wr K W1_ (by omega)
                refine go_aloadN C (pc' := 188) d2_187 rfl rfl rfl ?_
                refine go_getF C (pc' := 191) (own_w hw (i := 20) rfl) T1_.1.2.2.2.1 d2_188 rfl ?_
                refine go_iload C (pc' := 193) d2_191 rfl rfl ?_
                refine go_aloadN C (pc' := 194) d2_193 rfl rfl rfl ?_
                refine go_iload C (pc' := 196) d2_194 rfl rfl ?_
                refine go_nload C (pc' := 197) (T1_.2.2.2.2.2.2.2.2.1) hb1 d2_196 rfl ?_
                refine go_nstore C (pc' := 198) (T1_.2.2.1) q2 (by omega) d2_197 rfl ?_
                intro h2_ W2_
                have T2_ := T1_.wB W2_
                have K2_ := keep_wr K1_ W2_ (by omega)
                refine go_aloadN C (pc' := 199) d2_198 rfl rfl rfl ?_
                refine go_getF C (pc' := 202) (own_w hw (i := 22) rfl) T2_.1.2.2.2.2.1 d2_199 rfl ?_
                refine go_iload C (pc' := 204) d2_202 rfl rfl ?_
                refine go_aload C (pc' := 206) d2_204 rfl rfl rfl ?_
                refine go_iload C (pc' := 208) d2_206 rfl rfl ?_
                refine go_nload C (pc' := 209) (T2_.2.2.2.2.2.2.2.2.2.1) he1 d2_208 rfl ?_
                refine go_nstore C (pc' := 210) (T2_.2.2.2.1) q3 (by omega) d2_209 rfl ?_
                intro h3_ W3_
                have T3_ := T2_.wD W3_
                have K3_ := keep_wr K2_ W3_ (by omega)
                refine go_aloadN C (pc' := 211) d2_210 rfl rfl rfl ?_
                refine go_getF C (pc' := 214) (own_w hw (i := 24) rfl) T3_.1.2.2.2.2.2.1 d2_211 rfl ?_
                refine go_iload C (pc' := 216) d2_214 rfl rfl ?_
                refine go_iload C (pc' := 218) d2_216 rfl rfl ?_
                refine go_nstore C (pc' := 219) (T3_.2.2.2.2.1) q4 (by omega) d2_218 rfl ?_
                intro h4_ W4_
                have T4_ := T3_.wP W4_
                have K4_ := keep_wr K3_ W4_ (by omega)
                refine go_iinc C (pc' := 222) (z := 1) (Ls' := #[.val (.ref c), .val (.int (3 : Int32)), .val (.ref ia), .val (.ref ib), .val (.ref ie), .val (.ref il), .val (.int (Int32.ofNat (be + 1))), .val (.int (Int32.ofNat af)), .val (.int (Int32.ofNat (i + 1))), .val (.int (Int32.ofNat be))]) d2_219 rfl rfl (by rw [hinc]; rfl) rfl ?_
                refine go_goto C (pc' := 146) d2_222 (by decide) (by decide) ?_
                exact ih (i + 1) _ _ _ _ _ (by omega) (Or.inr ⟨_, rfl⟩) hr T4_ K4_
              · rw [if_neg c1] at hr
                by_cases c2 : af < la1.length ∧ af < lb1.length ∧ af < ld1.length ∧ i < lp1.length ∧ r = 1
                · rw [if_pos c2] at hr
                  obtain ⟨q1, q2, q3, q4, rfl⟩ := c2
                  refine go_ifN C (pc' := 161) d2_158 rfl rfl ?_
                  refine go_iload C (pc' := 163) d2_161 rfl rfl ?_
                  refine go_iinc C (pc' := 166) (z := 1) (Ls' := #[.val (.ref c), .val (.int (3 : Int32)), .val (.ref ia), .val (.ref ib), .val (.ref ie), .val (.ref il), .val (.int (Int32.ofNat be)), .val (.int (Int32.ofNat (af + 1))), .val (.int (Int32.ofNat i)), X]) d2_163 rfl rfl (by rw [hina]; rfl) rfl ?_
                  refine go_goto C (pc' := 174) d2_166 (by decide) (by decide) ?_
                  refine go_istore C (pc' := 176) (Ls' := #[.val (.ref c), .val (.int (3 : Int32)), .val (.ref ia), .val (.ref ib), .val (.ref ie), .val (.ref il), .val (.int (Int32.ofNat be)), .val (.int (Int32.ofNat (af + 1))), .val (.int (Int32.ofNat i)), .val (.int (Int32.ofNat af))]) d2_174 (by rcases hX with rfl | ⟨z, rfl⟩ <;> rfl) rfl ?_
                  refine go_aloadN C (pc' := 177) d2_176 rfl rfl rfl ?_
                  refine go_getF C (pc' := 180) (own_w hw (i := 18) rfl) T.1.2.2.1 d2_177 rfl ?_
                  refine go_iload C (pc' := 182) d2_180 rfl rfl ?_
                  refine go_aloadN C (pc' := 183) d2_182 rfl rfl rfl ?_
                  refine go_iload C (pc' := 185) d2_183 rfl rfl ?_
                  refine go_nload C (pc' := 186) (T.2.2.2.2.2.2.2.1) ha1 d2_185 rfl ?_
                  refine go_nstore C (pc' := 187) (T.2.1) q1 (by omega) d2_186 rfl ?_
                  intro h5_ W5_
                  have T5_ := T.wA W5_
                  have K5_ := keep_wr K W5_ (by omega)
                  refine go_aloadN C (pc' := 188) d2_187 rfl rfl rfl ?_
                  refine go_getF C (pc' := 191) (own_w hw (i := 20) rfl) T5_.1.2.2.2.1 d2_188 rfl ?_
                  refine go_iload C (pc' := 193) d2_191 rfl rfl ?_
                  refine go_aloadN C (pc' := 194) d2_193 rfl rfl rfl ?_
                  refine go_iload C (pc' := 196) d2_194 rfl rfl ?_
                  refine go_nload C (pc' := 197) (T5_.2.2.2.2.2.2.2.2.1) hb1 d2_196 rfl ?_
                  refine go_nstore C (pc' := 198) (T5_.2.2.1) q2 (by omega) d2_197 rfl ?_
                  intro h6_ W6_
                  have T6_ := T5_.wB W6_
                  have K6_ := keep_wr K5_ W6_ (by omega)
                  refine go_aloadN C (pc' := 199) d2_198 rfl rfl rfl ?_
                  refine go_getF C (pc' := 202) (own_w hw (i := 22) rfl) T6_.1.2.2.2.2.1 d2_199 rfl ?_
                  refine go_iload C (pc' := 204) d2_202 rfl rfl ?_
                  refine go_aload C (pc' := 206) d2_204 rfl rfl rfl ?_
                  refine go_iload C (pc' := 208) d2_206 rfl rfl ?_
                  refine go_nload C (pc' := 209) (T6_.2.2.2.2.2.2.2.2.2.1) he1 d2_208 rfl ?_
                  refine go_nstore C (pc' := 210) (T6_.2.2.2.1) q3 (by omega) d2_209 rfl ?_
                  intro h7_ W7_
                  have T7_ := T6_.wD W7_
                  have K7_ := keep_wr K6_ W7_ (by omega)
                  refine go_aloadN C (pc' := 211) d2_210 rfl rfl rfl ?_
                  refine go_getF C (pc' := 214) (own_w hw (i := 24) rfl) T7_.1.2.2.2.2.2.1 d2_211 rfl ?_
                  refine go_iload C (pc' := 216) d2_214 rfl rfl ?_
                  refine go_iload C (pc' := 218) d2_216 rfl rfl ?_
                  refine go_nstore C (pc' := 219) (T7_.2.2.2.2.1) q4 (by omega) d2_218 rfl ?_
                  intro h8_ W8_
                  have T8_ := T7_.wP W8_
                  have K8_ := keep_wr K7_ W8_ (by omega)
                  refine go_iinc C (pc' := 222) (z := 1) (Ls' := #[.val (.ref c), .val (.int (3 : Int32)), .val (.ref ia), .val (.ref ib), .val (.ref ie), .val (.ref il), .val (.int (Int32.ofNat be)), .val (.int (Int32.ofNat (af + 1))), .val (.int (Int32.ofNat (i + 1))), .val (.int (Int32.ofNat af))]) d2_219 rfl rfl (by rw [hinc]; rfl) rfl ?_
                  refine go_goto C (pc' := 146) d2_222 (by decide) (by decide) ?_
                  exact ih (i + 1) _ _ _ _ _ (by omega) (Or.inr ⟨_, rfl⟩) hr T8_ K8_
                · rw [if_neg c2] at hr
                  cases hr
    · rw [if_neg c0] at hr
      have hr3 := Option.some.inj hr
      subst hr3
      skip
      refine go_iload C (pc' := 148) d2_146 rfl rfl ?_
      refine go_aloadN C (pc' := 149) d2_148 rfl rfl rfl ?_
      refine go_nalen C (pc' := 150) (T.2.2.2.2.2.2.2.1) d2_149 rfl ?_
      refine go_icY C (pc' := 225) d2_150 ((rel_holds .ge _ _).mpr (by show (Int32.ofNat xa.length).toInt ≤ (Int32.ofNat i).toInt; rw [nat_i (by omega), nat_i (by omega)]; omega)) (by decide) (by decide) ?_
      exact ctE Z a0 hw E C ia ib ie c A B D P f pa sa ha il xa xb xe _ u9 h0 n0 gc gh hx4 xl _ _ _ _ h T K
set_option maxRecDepth 65536 in
set_option maxHeartbeats 4000000 in
theorem ctM (Z : State) (a0 : Array Value) (hw : ∀ d ∈ tables_1, d.before a0 Z = true) (E : Noise) (C : Cx E Z "com/example/joinweave/joinweave/graph/CoreTrees" "<init>" prog_138_method_1_code 10 none) (ia ib ie c A B D P f pa sa ha il : Nat) (xa xb xe : List Nat) (p9 : PLC) (u9 : UFS) (h0 : Heap) (n0 : Nat) (gc : n0 ≤ c) (gh : h0.size ≤ A) (hx4 : xa.length = 4) (u u1 : UFS) (yl : List Nat) (h : Heap) (hu1 : undoF u = some u1) (hu2 : undoF u1 = some u9) (hp : placeF xa xb xe yl 10 0 0 2 ([0, 0, 0, 0], [0, 0, 0, 0], [0, 0, 0, 0], [0, 0, 0, 0]) = some p9) (T : Cs Z h ia ib ie c A B D P f pa sa ha il (.int 0) xa xb xe ([0, 0, 0, 0], [0, 0, 0, 0], [0, 0, 0, 0], [0, 0, 0, 0]) u yl) (K : Keep h0 h [c]) : Go E RCt n0 (QC Z h0 c p9 u9) h 9 32 100 #[.val (.ref c), .val (.int (3 : Int32)), .val (.ref ia), .val (.ref ib), .val (.ref ie), .val (.ref il), .val (.int (Int32.ofNat 4)), .unset, .unset, .unset] [] := by
  have ord := T.2.2.2.2.2.2.2.2.2.2
  refine go_iconst C (pc' := 101) (z := 0) d2_100 rfl rfl ?_
  refine go_istore C (pc' := 103) (Ls' := #[.val (.ref c), .val (.int (3 : Int32)), .val (.ref ia), .val (.ref ib), .val (.ref ie), .val (.ref il), .val (.int (0 : Int32)), .unset, .unset, .unset]) d2_101 rfl rfl ?_
  refine go_iload C (pc' := 105) d2_103 rfl rfl ?_
  refine go_iloadN C (pc' := 106) d2_105 rfl rfl ?_
  refine go_iconst C (pc' := 107) (z := 1) d2_106 rfl rfl ?_
  refine go_isub C (pc' := 108) d2_107 rfl ?_
  show Go E RCt n0 (QC Z h0 c p9 u9) h 9 32 108 #[.val (.ref c), .val (.int (3 : Int32)), .val (.ref ia), .val (.ref ib), .val (.ref ie), .val (.ref il), .val (.int (0 : Int32)), .unset, .unset, .unset] [(.int (2 : Int32)), (.int (0 : Int32))]
  refine go_icN C (pc' := 111) d2_108 (by decide) rfl ?_
  refine go_aloadN C (pc' := 112) d2_111 rfl rfl rfl ?_
  refine go_getF C (pc' := 115) (own_w hw (i := 43) rfl) T.1.2.2.2.2.2.2.2.1 d2_112 rfl ?_
  refine go_callV C (pc' := 118) (k' := 9) (n' := 32) (argsL := []) (rest := []) (own_w hw (i := 58) rfl) (own_w hw (i := 59) rfl) (own_w hw (i := 61) rfl) (own_w hw (i := 60) rfl) (own_w hw (i := 28) rfl) (own_w hw (i := 62) rfl) (T.2.2.2.2.2.1.1) (rmD Z a0 hw f pa sa ha u u1 h n0 ⟨by omega, by omega, by omega, by omega⟩ (T.2.2.2.2.2.1) hu1) d2_115 rfl rfl (lenOf pd2 rfl) (by decide) (by decide) 0 rfl (by decide) rfl rfl (by decide) (by decide) rfl ?_
  rintro _ h1_ ⟨rfl, Ku1_, U1_⟩
  have T1_ := T.wF Ku1_ U1_
  have K1_ := K.trans Ku1_ (mem4o (by omega) (by omega) (by omega) (by omega))
  show Go E RCt n0 (QC Z h0 c p9 u9) h1_ 9 32 118 #[.val (.ref c), .val (.int (3 : Int32)), .val (.ref ia), .val (.ref ib), .val (.ref ie), .val (.ref il), .val (.int (0 : Int32)), .unset, .unset, .unset] []
  refine go_iinc C (pc' := 121) (z := 1) (Ls' := #[.val (.ref c), .val (.int (3 : Int32)), .val (.ref ia), .val (.ref ib), .val (.ref ie), .val (.ref il), .val (.int (1 : Int32)), .unset, .unset, .unset]) d2_118 rfl rfl rfl rfl ?_
  refine go_goto C (pc' := 103) d2_121 (by decide) (by decide) ?_
  refine go_iload C (pc' := 105) d2_103 rfl rfl ?_
  refine go_iloadN C (pc' := 106) d2_105 rfl rfl ?_
  refine go_iconst C (pc' := 107) (z := 1) d2_106 rfl rfl ?_
  refine go_isub C (pc' := 108) d2_107 rfl ?_
  show Go E RCt n0 (QC Z h0 c p9 u9) h1_ 9 32 108 #[.val (.ref c), .val (.int (3 : Int32)), .val (.ref ia), .val (.ref ib), .val (.ref ie), .val (.ref il), .val (.int (1 : Int32)), .unset, .unset, .unset] [(.int (2 : Int32)), (.int (1 : Int32))]
  refine go_icN C (pc' := 111) d2_108 (by decide) rfl ?_
  refine go_aloadN C (pc' := 112) d2_111 rfl rfl rfl ?_
  refine go_getF C (pc' := 115) (own_w hw (i := 43) rfl) T1_.1.2.2.2.2.2.2.2.1 d2_112 rfl ?_
  refine go_callV C (pc' := 118) (k' := 9) (n' := 32) (argsL := []) (rest := []) (own_w hw (i := 58) rfl) (own_w hw (i := 59) rfl) (own_w hw (i := 61) rfl) (own_w hw (i := 60) rfl) (own_w hw (i := 28) rfl) (own_w hw (i := 62) rfl) (T1_.2.2.2.2.2.1.1) (rmD Z a0 hw f pa sa ha u1 u9 h1_ n0 ⟨by omega, by omega, by omega, by omega⟩ (T1_.2.2.2.2.2.1) hu2) d2_115 rfl rfl (lenOf pd2 rfl) (by decide) (by decide) 0 rfl (by decide) rfl rfl (by decide) (by decide) rfl ?_
  rintro _ h2_ ⟨rfl, Ku2_, U2_⟩
  have T2_ := T1_.wF Ku2_ U2_
  have K2_ := K1_.trans Ku2_ (mem4o (by omega) (by omega) (by omega) (by omega))
  show Go E RCt n0 (QC Z h0 c p9 u9) h2_ 9 32 118 #[.val (.ref c), .val (.int (3 : Int32)), .val (.ref ia), .val (.ref ib), .val (.ref ie), .val (.ref il), .val (.int (1 : Int32)), .unset, .unset, .unset] []
  refine go_iinc C (pc' := 121) (z := 1) (Ls' := #[.val (.ref c), .val (.int (3 : Int32)), .val (.ref ia), .val (.ref ib), .val (.ref ie), .val (.ref il), .val (.int (2 : Int32)), .unset, .unset, .unset]) d2_118 rfl rfl rfl rfl ?_
  refine go_goto C (pc' := 103) d2_121 (by decide) (by decide) ?_
  refine go_iload C (pc' := 105) d2_103 rfl rfl ?_
  refine go_iloadN C (pc' := 106) d2_105 rfl rfl ?_
  refine go_iconst C (pc' := 107) (z := 1) d2_106 rfl rfl ?_
  refine go_isub C (pc' := 108) d2_107 rfl ?_
  show Go E RCt n0 (QC Z h0 c p9 u9) h2_ 9 32 108 #[.val (.ref c), .val (.int (3 : Int32)), .val (.ref ia), .val (.ref ib), .val (.ref ie), .val (.ref il), .val (.int (2 : Int32)), .unset, .unset, .unset] [(.int (2 : Int32)), (.int (2 : Int32))]
  refine go_icY C (pc' := 124) d2_108 (by decide) (by decide) (by decide) ?_
  refine go_aloadN C (pc' := 125) d2_124 rfl rfl rfl ?_
  refine go_aloadN C (pc' := 126) d2_125 rfl rfl rfl ?_
  refine go_nalen C (pc' := 127) (T2_.2.2.2.2.2.2.2.1) d2_126 rfl ?_
  rw [hx4]
  refine go_iloadN C (pc' := 128) d2_127 rfl rfl ?_
  refine go_iconst C (pc' := 129) (z := 1) d2_128 rfl rfl ?_
  refine go_isub C (pc' := 130) d2_129 rfl ?_
  show Go E RCt n0 (QC Z h0 c p9 u9) h2_ 9 32 130 #[.val (.ref c), .val (.int (3 : Int32)), .val (.ref ia), .val (.ref ib), .val (.ref ie), .val (.ref il), .val (.int (2 : Int32)), .unset, .unset, .unset] [(.int (2 : Int32)), (.int (Int32.ofNat 4)), (.ref c)]
  refine go_isub C (pc' := 131) d2_130 rfl ?_
  show Go E RCt n0 (QC Z h0 c p9 u9) h2_ 9 32 131 #[.val (.ref c), .val (.int (3 : Int32)), .val (.ref ia), .val (.ref ib), .val (.ref ie), .val (.ref il), .val (.int (2 : Int32)), .unset, .unset, .unset] [(.int (Int32.ofNat 2)), (.ref c)]
  refine go_putF C (pc' := 134) (ty := .int) (own_w hw (i := 63) rfl) (T2_.1.2.2.2.2.2.2.1) T2_.1.1 (Or.inr ⟨(own_w hw (i := 64) rfl), rfl, rfl⟩) (own_w hw (i := 6) rfl) (by decide) rfl rfl gc d2_131 rfl ?_
  intro h3_ W3_
  have T3_ := T2_.wS hw W3_
  have K3_ := K2_.wr W3_ (Or.inl (List.mem_singleton.mpr rfl))
  refine go_iconst C (pc' := 135) (z := 0) d2_134 rfl rfl ?_
  refine go_istore C (pc' := 137) (Ls' := #[.val (.ref c), .val (.int (3 : Int32)), .val (.ref ia), .val (.ref ib), .val (.ref ie), .val (.ref il), .val (.int (0 : Int32)), .unset, .unset, .unset]) d2_135 rfl rfl ?_
  refine go_aloadN C (pc' := 138) d2_137 rfl rfl rfl ?_
  refine go_getF C (pc' := 141) (own_w hw (i := 63) rfl) T3_.1.2.2.2.2.2.2.1 d2_138 rfl ?_
  refine go_istore C (pc' := 143) (Ls' := #[.val (.ref c), .val (.int (3 : Int32)), .val (.ref ia), .val (.ref ib), .val (.ref ie), .val (.ref il), .val (.int (0 : Int32)), .val (.int (Int32.ofNat 2)), .unset, .unset]) d2_141 rfl rfl ?_
  refine go_iconst C (pc' := 144) (z := 0) d2_143 rfl rfl ?_
  refine go_istore C (pc' := 146) (Ls' := #[.val (.ref c), .val (.int (3 : Int32)), .val (.ref ia), .val (.ref ib), .val (.ref ie), .val (.ref il), .val (.int (0 : Int32)), .val (.int (Int32.ofNat 2)), .val (.int (0 : Int32)), .unset]) d2_144 rfl rfl ?_
  exact loopC3 Z a0 hw E C ia ib ie c A B D P f pa sa ha il xa xb xe p9 u9 h0 n0 gc gh hx4 yl 10 0 0 2 ([0, 0, 0, 0], [0, 0, 0, 0], [0, 0, 0, 0], [0, 0, 0, 0]) _ _ (by omega) (Or.inl rfl) hp T3_ K3_
set_option maxRecDepth 65536 in
set_option maxHeartbeats 4000000 in
theorem loopC1 (Z : State) (a0 : Array Value) (hw : ∀ d ∈ tables_1, d.before a0 Z = true) (E : Noise) (C : Cx E Z "com/example/joinweave/joinweave/graph/CoreTrees" "<init>" prog_138_method_1_code 10 none) (ia ib ie c A B D P f pa sa ha il : Nat) (xa xb xe : List Nat) (p9 : PLC) (u9 : UFS) (h0 : Heap) (n0 : Nat) (gc : n0 ≤ c) (gh : h0.size ≤ A) (hx4 : xa.length = 4) (u0 um : UFS) (yl : List Nat) (hu1 : undoF u0 = some um) (hu2 : undoF um = some u9) (hp : placeF xa xb xe yl 10 0 0 2 ([0, 0, 0, 0], [0, 0, 0, 0], [0, 0, 0, 0], [0, 0, 0, 0]) = some p9) : ∀ (g i : Nat) (u : UFS) (l : List Nat) (h : Heap), i ≤ 4 → unisF xa xb g i u l = some (u0, yl) → Cs Z h ia ib ie c A B D P f pa sa ha il (.int 0) xa xb xe ([0, 0, 0, 0], [0, 0, 0, 0], [0, 0, 0, 0], [0, 0, 0, 0]) u l → Keep h0 h [c] → Go E RCt n0 (QC Z h0 c p9 u9) h 9 32 67 #[.val (.ref c), .val (.int (3 : Int32)), .val (.ref ia), .val (.ref ib), .val (.ref ie), .val (.ref il), .val (.int (Int32.ofNat i)), .unset, .unset, .unset] [] := by
  intro g
  induction g with
  | zero => intro i u l h hi4 hr; cases hr
  | succ g ih =>
    intro i u l h hi4 hr T K
    have ord := T.2.2.2.2.2.2.2.2.2.2
    have smX := An.small T.2.2.2.2.2.2.2.1
    unfold unisF at hr
    by_cases c0 : i < xa.length
    · rw [if_pos c0] at hr
      cases ha1 : xa[i]? with
      | none => rw [ha1] at hr; cases hr
      | some va =>
        rw [ha1] at hr
        dsimp only at hr
        cases hb1 : xb[i]? with
        | none => rw [hb1] at hr; cases hr
        | some vb =>
          rw [hb1] at hr
          dsimp only at hr
          cases hu : unionF u va vb with
          | none => rw [hu] at hr; cases hr
          | some t =>
            rw [hu] at hr
            dsimp only at hr
            obtain ⟨r, u2⟩ := t
            dsimp only at hr
            have h01 := unionF_01 hu
            by_cases c1 : i < l.length
            · rw [if_pos c1] at hr
              have hinc : Int32.ofNat i + (1 : Int32) = Int32.ofNat (i + 1) := i_add i 1
              refine go_iload C (pc' := 69) d2_67 rfl rfl ?_
              refine go_aloadN C (pc' := 70) d2_69 rfl rfl rfl ?_
              refine go_nalen C (pc' := 71) (T.2.2.2.2.2.2.2.1) d2_70 rfl ?_
              refine go_icN C (pc' := 74) d2_71 (Bool.eq_false_iff.mpr fun q => by have q2 : (Int32.ofNat xa.length).toInt ≤ (Int32.ofNat i).toInt := (rel_holds .ge _ _).mp q; rw [nat_i (by omega), nat_i (by omega)] at q2; omega) rfl ?_
              refine go_aload C (pc' := 76) d2_74 rfl rfl rfl ?_
              refine go_iload C (pc' := 78) d2_76 rfl rfl ?_
              refine go_aloadN C (pc' := 79) d2_78 rfl rfl rfl ?_
              refine go_getF C (pc' := 82) (own_w hw (i := 43) rfl) T.1.2.2.2.2.2.2.2.1 d2_79 rfl ?_
              refine go_aloadN C (pc' := 83) d2_82 rfl rfl rfl ?_
              refine go_iload C (pc' := 85) d2_83 rfl rfl ?_
              refine go_nload C (pc' := 86) (T.2.2.2.2.2.2.2.1) ha1 d2_85 rfl ?_
              refine go_aloadN C (pc' := 87) d2_86 rfl rfl rfl ?_
              refine go_iload C (pc' := 89) d2_87 rfl rfl ?_
              refine go_nload C (pc' := 90) (T.2.2.2.2.2.2.2.2.1) hb1 d2_89 rfl ?_
              refine go_callV C (pc' := 93) (k' := 9) (n' := 32) (argsL := [(.int (Int32.ofNat va)), (.int (Int32.ofNat vb))]) (rest := [(.int (Int32.ofNat i)), (.ref il)]) (own_w hw (i := 46) rfl) (own_w hw (i := 47) rfl) (own_w hw (i := 49) rfl) (own_w hw (i := 48) rfl) (own_w hw (i := 28) rfl) (own_w hw (i := 50) rfl) (T.2.2.2.2.2.1.1) (rmU Z a0 hw f pa sa ha u u2 va vb r h n0 ⟨by omega, by omega, by omega, by omega⟩ (T.2.2.2.2.2.1) hu) d2_90 rfl rfl (lenOf pd5 rfl) (by decide) (by decide) 2 rfl (by decide) rfl rfl (by decide) (by decide) rfl ?_
              rintro _ h1_ ⟨rfl, Ku1_, U1_⟩
              have T1_ := T.wF Ku1_ U1_
              have K1_ := K.trans Ku1_ (mem4o (by omega) (by omega) (by omega) (by omega))
              show Go E RCt n0 (QC Z h0 c p9 u9) h1_ 9 32 93 #[.val (.ref c), .val (.int (3 : Int32)), .val (.ref ia), .val (.ref ib), .val (.ref ie), .val (.ref il), .val (.int (Int32.ofNat i)), .unset, .unset, .unset] [(.int (Int32.ofNat r)), (.int (Int32.ofNat i)), (.ref il)]
              refine go_nstoreZ C (pc' := 94) (T1_.2.2.2.2.2.2.1) c1 h01 (by omega) d2_93 rfl ?_
              intro h2_ W2_
              have T2_ := T1_.wL W2_
              have K2_ := keep_wr K1_ W2_ (by omega)
              refine go_iinc C (pc' := 97) (z := 1) (Ls' := #[.val (.ref c), .val (.int (3 : Int32)), .val (.ref ia), .val (.ref ib), .val (.ref ie), .val (.ref il), .val (.int (Int32.ofNat (i + 1))), .unset, .unset, .unset]) d2_94 rfl rfl (by rw [hinc]; rfl) rfl ?_
              refine go_goto C (pc' := 67) d2_97 (by decide) (by decide) ?_
              exact ih (i + 1) u2 _ _ (by omega) hr T2_ K2_
            · rw [if_neg c1] at hr; cases hr
    · rw [if_neg c0] at hr
      obtain ⟨e1, e2⟩ := Prod.mk.inj (Option.some.inj hr)
      subst e1
      subst e2
      obtain rfl : i = 4 := by omega
      refine go_iload C (pc' := 69) d2_67 rfl rfl ?_
      refine go_aloadN C (pc' := 70) d2_69 rfl rfl rfl ?_
      refine go_nalen C (pc' := 71) (T.2.2.2.2.2.2.2.1) d2_70 rfl ?_
      refine go_icY C (pc' := 100) d2_71 ((rel_holds .ge _ _).mpr (by show (Int32.ofNat xa.length).toInt ≤ (Int32.ofNat 4).toInt; rw [hx4]; decide)) (by decide) (by decide) ?_
      exact ctM Z a0 hw E C ia ib ie c A B D P f pa sa ha il xa xb xe p9 u9 h0 n0 gc gh hx4 u um l h hu1 hu2 hp T K
set_option maxRecDepth 65536 in
set_option maxHeartbeats 4000000 in
theorem rmCt (Z : State) (a0 : Array Value) (hw : ∀ d ∈ tables_1, d.before a0 Z = true) (c ia ib ie : Nat) (xa xb xe : List Nat) (p9 : PLC) (u9 u0 um : UFS) (yl : List Nat) (h0 : Heap) (n0 : Nat) (hn0 : n0 ≤ h0.size) (gc : n0 ≤ c) (o1 : ia < ib) (o2 : ib < ie) (o3 : ie < c) (hx4 : xa.length = 4) (hun : unisF xa xb 10 0 initF [0, 0, 0, 0] = some (u0, yl)) (hu1 : undoF u0 = some um) (hu2 : undoF um = some u9) (hp : placeF xa xb xe yl 10 0 0 2 ([0, 0, 0, 0], [0, 0, 0, 0], [0, 0, 0, 0], [0, 0, 0, 0]) = some p9) (FF : CF Z h0 c (.int 0) .null .null .null .null (.int 0) .null .null (.int 0) .null (.int 0)) (fia : An Z h0 ia .int xa) (fib : An Z h0 ib .int xb) (fie : An Z h0 ie .int xe) : Met Z (⟨"com/example/joinweave/joinweave/graph/CoreTrees", "<init>", "(I[I[I[I)V"⟩ : MethodName) prog_138_method_1_code 10 none RCt #[.ref c, .int 3, .ref ia, .ref ib, .ref ie] h0 n0 (QC Z h0 c p9 u9) := by
  refine met_of (Ls := #[.val (.ref c), .val (.int (3 : Int32)), .val (.ref ia), .val (.ref ib), .val (.ref ie), .unset, .unset, .unset, .unset, .unset]) (plainFor_of_name pn1) (fun m => by first | (simp [entryFrame, mkF, argsToLocals, Value.category]; done) | rfl) ?_
  intro E (C : Cx E Z "com/example/joinweave/joinweave/graph/CoreTrees" "<init>" prog_138_method_1_code 10 none)
  have K0 := Keep.refl h0 [c]
  have tc_ := exa_lt FF.1
  have zz0 := hn0
  refine go_aloadN C (pc' := 1) d2_0 rfl rfl rfl ?_
  refine go_initO C (pc' := 4) (own_w hw (i := 11) rfl) (own_w hw (i := 12) rfl) (own_w hw (i := 13) rfl) d2_1 rfl (by decide) 0 rfl (by decide) rfl ?_
  refine go_aloadN C (pc' := 5) d2_4 rfl rfl rfl ?_
  refine go_iconst C (pc' := 6) (z := (-1)) d2_5 rfl rfl ?_
  show Go E RCt n0 (QC Z h0 c p9 u9) h0 0 0 6 #[.val (.ref c), .val (.int (3 : Int32)), .val (.ref ia), .val (.ref ib), .val (.ref ie), .unset, .unset, .unset, .unset, .unset] [(.int ((Int32.ofNat 0) - 1)), (.ref c)]
  refine go_putF C (pc' := 9) (ty := .int) (own_w hw (i := 14) rfl) (FF.2.2.2.2.2.2.2.2.2.1) FF.1 (Or.inl (own_w hw (i := 15) rfl)) (own_w hw (i := 6) rfl) (by decide) rfl rfl gc d2_6 rfl ?_
  intro h1_ W1_
  have z1_ := W1_.size
  replace FF := FF.w_decided hw W1_
  have K1_ := K0.wr W1_ (Or.inl (List.mem_singleton.mpr rfl))
  replace fia := Ai.other fia W1_ (by omega)
  replace fib := Ai.other fib W1_ (by omega)
  replace fie := Ai.other fie W1_ (by omega)
  refine go_aloadN C (pc' := 10) d2_9 rfl rfl rfl ?_
  refine go_iloadN C (pc' := 11) d2_10 rfl rfl ?_
  refine go_putF C (pc' := 14) (ty := .int) (own_w hw (i := 16) rfl) (FF.2.1) FF.1 (Or.inr ⟨(own_w hw (i := 17) rfl), rfl, rfl⟩) (own_w hw (i := 6) rfl) (by decide) rfl rfl gc d2_11 rfl ?_
  intro h2_ W2_
  have z2_ := W2_.size
  replace FF := FF.w_vertices hw W2_
  have K2_ := K1_.wr W2_ (Or.inl (List.mem_singleton.mpr rfl))
  replace fia := Ai.other fia W2_ (by omega)
  replace fib := Ai.other fib W2_ (by omega)
  replace fie := Ai.other fie W2_ (by omega)
  refine go_aloadN C (pc' := 15) d2_14 rfl rfl rfl ?_
  refine go_aloadN C (pc' := 16) d2_15 rfl rfl rfl ?_
  refine go_nalen C (pc' := 17) fia d2_16 rfl ?_
  rw [hx4]
  refine go_nnew C (aty := .int) (z := 4) (pc' := 19) (k' := 1) (n' := 4) (own_w hw (i := 0) rfl) rfl (by decide) d2_17 rfl rfl (by decide) (by decide) rfl ?_
  intro h3_ x3_ B3_
  obtain ⟨A, eA⟩ : ∃ q, q = h2_.size := ⟨_, rfl⟩
  rw [← eA] at B3_ ⊢
  have z3_ := x3_.1
  have t3_ := Ai.lt B3_
  have K3_ := K2_.ext x3_
  replace FF := FF.ext x3_
  replace fia := Ai.ext fia x3_
  replace fib := Ai.ext fib x3_
  replace fie := Ai.ext fie x3_
  have fA := B3_
  refine go_putF C (pc' := 22) (ty := (.array .int)) (own_w hw (i := 18) rfl) (FF.2.2.1) FF.1 (Or.inr ⟨(own_w hw (i := 19) rfl), rfl, rfl⟩) (own_w hw (i := 6) rfl) (by decide) rfl rfl gc d2_19 rfl ?_
  intro h4_ W4_
  have z4_ := W4_.size
  replace FF := FF.w_a hw W4_
  have K4_ := K3_.wr W4_ (Or.inl (List.mem_singleton.mpr rfl))
  replace fia := Ai.other fia W4_ (by omega)
  replace fib := Ai.other fib W4_ (by omega)
  replace fie := Ai.other fie W4_ (by omega)
  replace fA := Ai.other fA W4_ (by omega)
  refine go_aloadN C (pc' := 23) d2_22 rfl rfl rfl ?_
  refine go_aloadN C (pc' := 24) d2_23 rfl rfl rfl ?_
  refine go_nalen C (pc' := 25) fia d2_24 rfl ?_
  rw [hx4]
  refine go_nnew C (aty := .int) (z := 4) (pc' := 27) (k' := 2) (n' := 8) (own_w hw (i := 0) rfl) rfl (by decide) d2_25 rfl rfl (by decide) (by decide) rfl ?_
  intro h5_ x5_ B5_
  obtain ⟨B, eB⟩ : ∃ q, q = h4_.size := ⟨_, rfl⟩
  rw [← eB] at B5_ ⊢
  have z5_ := x5_.1
  have t5_ := Ai.lt B5_
  have K5_ := K4_.ext x5_
  replace FF := FF.ext x5_
  replace fia := Ai.ext fia x5_
  replace fib := Ai.ext fib x5_
  replace fie := Ai.ext fie x5_
  replace fA := Ai.ext fA x5_
  have fB := B5_
  refine go_putF C (pc' := 30) (ty := (.array .int)) (own_w hw (i := 20) rfl) (FF.2.2.2.1) FF.1 (Or.inr ⟨(own_w hw (i := 21) rfl), rfl, rfl⟩) (own_w hw (i := 6) rfl) (by decide) rfl rfl gc d2_27 rfl ?_
  intro h6_ W6_
  have z6_ := W6_.size
  replace FF := FF.w_b hw W6_
  have K6_ := K5_.wr W6_ (Or.inl (List.mem_singleton.mpr rfl))
  replace fia := Ai.other fia W6_ (by omega)
  replace fib := Ai.other fib W6_ (by omega)
  replace fie := Ai.other fie W6_ (by omega)
  replace fA := Ai.other fA W6_ (by omega)
  replace fB := Ai.other fB W6_ (by omega)
  refine go_aloadN C (pc' := 31) d2_30 rfl rfl rfl ?_
  refine go_aloadN C (pc' := 32) d2_31 rfl rfl rfl ?_
  refine go_nalen C (pc' := 33) fia d2_32 rfl ?_
  rw [hx4]
  refine go_nnew C (aty := .int) (z := 4) (pc' := 35) (k' := 3) (n' := 12) (own_w hw (i := 0) rfl) rfl (by decide) d2_33 rfl rfl (by decide) (by decide) rfl ?_
  intro h7_ x7_ B7_
  obtain ⟨D, eD⟩ : ∃ q, q = h6_.size := ⟨_, rfl⟩
  rw [← eD] at B7_ ⊢
  have z7_ := x7_.1
  have t7_ := Ai.lt B7_
  have K7_ := K6_.ext x7_
  replace FF := FF.ext x7_
  replace fia := Ai.ext fia x7_
  replace fib := Ai.ext fib x7_
  replace fie := Ai.ext fie x7_
  replace fA := Ai.ext fA x7_
  replace fB := Ai.ext fB x7_
  have fD := B7_
  refine go_putF C (pc' := 38) (ty := (.array .int)) (own_w hw (i := 22) rfl) (FF.2.2.2.2.1) FF.1 (Or.inr ⟨(own_w hw (i := 23) rfl), rfl, rfl⟩) (own_w hw (i := 6) rfl) (by decide) rfl rfl gc d2_35 rfl ?_
  intro h8_ W8_
  have z8_ := W8_.size
  replace FF := FF.w_edge hw W8_
  have K8_ := K7_.wr W8_ (Or.inl (List.mem_singleton.mpr rfl))
  replace fia := Ai.other fia W8_ (by omega)
  replace fib := Ai.other fib W8_ (by omega)
  replace fie := Ai.other fie W8_ (by omega)
  replace fA := Ai.other fA W8_ (by omega)
  replace fB := Ai.other fB W8_ (by omega)
  replace fD := Ai.other fD W8_ (by omega)
  refine go_aloadN C (pc' := 39) d2_38 rfl rfl rfl ?_
  refine go_aloadN C (pc' := 40) d2_39 rfl rfl rfl ?_
  refine go_nalen C (pc' := 41) fia d2_40 rfl ?_
  rw [hx4]
  refine go_nnew C (aty := .int) (z := 4) (pc' := 43) (k' := 4) (n' := 16) (own_w hw (i := 0) rfl) rfl (by decide) d2_41 rfl rfl (by decide) (by decide) rfl ?_
  intro h9_ x9_ B9_
  obtain ⟨P, eP⟩ : ∃ q, q = h8_.size := ⟨_, rfl⟩
  rw [← eP] at B9_ ⊢
  have z9_ := x9_.1
  have t9_ := Ai.lt B9_
  have K9_ := K8_.ext x9_
  replace FF := FF.ext x9_
  replace fia := Ai.ext fia x9_
  replace fib := Ai.ext fib x9_
  replace fie := Ai.ext fie x9_
  replace fA := Ai.ext fA x9_
  replace fB := Ai.ext fB x9_
  replace fD := Ai.ext fD x9_
  have fP := B9_
  refine go_putF C (pc' := 46) (ty := (.array .int)) (own_w hw (i := 24) rfl) (FF.2.2.2.2.2.1) FF.1 (Or.inr ⟨(own_w hw (i := 25) rfl), rfl, rfl⟩) (own_w hw (i := 6) rfl) (by decide) rfl rfl gc d2_43 rfl ?_
  intro h10_ W10_
  have z10_ := W10_.size
  replace FF := FF.w_positionOf hw W10_
  have K10_ := K9_.wr W10_ (Or.inl (List.mem_singleton.mpr rfl))
  replace fia := Ai.other fia W10_ (by omega)
  replace fib := Ai.other fib W10_ (by omega)
  replace fie := Ai.other fie W10_ (by omega)
  replace fA := Ai.other fA W10_ (by omega)
  replace fB := Ai.other fB W10_ (by omega)
  replace fD := Ai.other fD W10_ (by omega)
  replace fP := Ai.other fP W10_ (by omega)
  refine go_aloadN C (pc' := 47) d2_46 rfl rfl rfl ?_
  refine go_newO C (pc' := 50) (k' := 5) (n' := 20) (own_w hw (i := 26) rfl) (own_w hw (i := 27) rfl) (own_w hw (i := 28) rfl) d2_47 rfl rfl (by decide) (by decide) rfl ?_
  intro hnf xf Af Df
  obtain ⟨af, eaf⟩ : ∃ q, q = h10_.size := ⟨_, rfl⟩
  rw [← eaf] at Af Df ⊢
  have znf := xf.1
  have gf : n0 ≤ af := by omega
  have tf_ := exa_lt Af
  replace FF := FF.ext xf
  replace fia := Ai.ext fia xf
  replace fib := Ai.ext fib xf
  replace fie := Ai.ext fie xf
  replace fA := Ai.ext fA xf
  replace fB := Ai.ext fB xf
  replace fD := Ai.ext fD xf
  replace fP := Ai.ext fP xf
  have Kf_ := K10_.ext xf
  refine go_dup C (pc' := 51) d2_50 rfl rfl ?_
  refine go_iloadN C (pc' := 52) d2_51 rfl rfl ?_
  have hgf : h0.size ≤ af := by omega
  refine go_callC C (pc' := 55) (k' := 8) (n' := 28) (argsL := [(.int (3 : Int32))]) (rest := [(.ref af), (.ref c)]) (own_w hw (i := 29) rfl) (own_w hw (i := 30) rfl) (own_w hw (i := 28) rfl) (own_w hw (i := 31) rfl) rfl (rmInit Z a0 hw af hnf n0 (by omega) gf Af (Df (Or.inr (own_w hw (i := 34) rfl)) (ty := (.array .int)) (by decide)) (Df (Or.inr (own_w hw (i := 36) rfl)) (ty := (.array .int)) (by decide)) (Df (Or.inr (own_w hw (i := 42) rfl)) (ty := (.array .int)) (by decide)) (Df (Or.inl (own_w hw (i := 57) rfl)) (ty := .int) (by decide))) d2_52 rfl rfl (lenOf pd3 rfl) (by decide) (by decide) 2 rfl (by decide) rfl rfl (by decide) (by decide) rfl ?_
  rintro _ hcf ⟨rfl, pa, sa, ha, zz, Kc, UU⟩
  have zcf := Kc.1
  have ltf := UU.lt
  replace FF := FF.keep Kc (nnS (by omega) nin0)
  replace fia := Ai.keep fia Kc (nnS (by omega) nin0)
  replace fib := Ai.keep fib Kc (nnS (by omega) nin0)
  replace fie := Ai.keep fie Kc (nnS (by omega) nin0)
  replace fA := Ai.keep fA Kc (nnS (by omega) nin0)
  replace fB := Ai.keep fB Kc (nnS (by omega) nin0)
  replace fD := Ai.keep fD Kc (nnS (by omega) nin0)
  replace fP := Ai.keep fP Kc (nnS (by omega) nin0)
  have Kg_ := Kf_.trans Kc (fun x hx => Or.inr (by rw [List.mem_singleton.mp hx]; exact hgf))
  show Go E RCt n0 (QC Z h0 c p9 u9) hcf 8 28 55 #[.val (.ref c), .val (.int (3 : Int32)), .val (.ref ia), .val (.ref ib), .val (.ref ie), .unset, .unset, .unset, .unset, .unset] [(.ref af), (.ref c)]
  refine go_putF C (pc' := 58) (ty := (.object "com/example/joinweave/joinweave/graph/UnionFind")) (own_w hw (i := 43) rfl) (FF.2.2.2.2.2.2.2.1) FF.1 (Or.inr ⟨(own_w hw (i := 44) rfl), rfl, rfl⟩) (own_w hw (i := 6) rfl) (by decide) rfl rfl gc d2_55 rfl ?_
  intro h11_ W11_
  have z11_ := W11_.size
  replace FF := FF.w_forest hw W11_
  have K11_ := Kg_.wr W11_ (Or.inl (List.mem_singleton.mpr rfl))
  replace fia := Ai.other fia W11_ (by omega)
  replace fib := Ai.other fib W11_ (by omega)
  replace fie := Ai.other fie W11_ (by omega)
  replace fA := Ai.other fA W11_ (by omega)
  replace fB := Ai.other fB W11_ (by omega)
  replace fD := Ai.other fD W11_ (by omega)
  replace fP := Ai.other fP W11_ (by omega)
  replace UU := UU.other W11_ (by omega) (by omega) (by omega) (by omega)
  refine go_aloadN C (pc' := 59) d2_58 rfl rfl rfl ?_
  refine go_nalen C (pc' := 60) fia d2_59 rfl ?_
  rw [hx4]
  refine go_nnew C (aty := .boolean) (z := 4) (pc' := 62) (k' := 9) (n' := 32) (own_w hw (i := 45) rfl) rfl (by decide) d2_60 rfl rfl (by decide) (by decide) rfl ?_
  intro h12_ x12_ B12_
  obtain ⟨il, eil⟩ : ∃ q, q = h11_.size := ⟨_, rfl⟩
  rw [← eil] at B12_ ⊢
  have z12_ := x12_.1
  have t12_ := Ai.lt B12_
  have K12_ := K11_.ext x12_
  replace FF := FF.ext x12_
  replace fia := Ai.ext fia x12_
  replace fib := Ai.ext fib x12_
  replace fie := Ai.ext fie x12_
  replace fA := Ai.ext fA x12_
  replace fB := Ai.ext fB x12_
  replace fD := Ai.ext fD x12_
  replace fP := Ai.ext fP x12_
  replace UU := UU.ext x12_
  have fil := B12_
  refine go_astore C (pc' := 64) (Ls' := #[.val (.ref c), .val (.int (3 : Int32)), .val (.ref ia), .val (.ref ib), .val (.ref ie), .val (.ref il), .unset, .unset, .unset, .unset]) d2_62 rfl rfl rfl ?_
  refine go_iconst C (pc' := 65) (z := 0) d2_64 rfl rfl ?_
  refine go_istore C (pc' := 67) (Ls' := #[.val (.ref c), .val (.int (3 : Int32)), .val (.ref ia), .val (.ref ib), .val (.ref ie), .val (.ref il), .val (.int (0 : Int32)), .unset, .unset, .unset]) d2_65 rfl rfl ?_
  have T0 : Cs Z h12_ ia ib ie c A B D P af pa sa ha il (.int 0) xa xb xe ([0, 0, 0, 0], [0, 0, 0, 0], [0, 0, 0, 0], [0, 0, 0, 0]) initF [0, 0, 0, 0] := ⟨FF, fA, fB, fD, fP, UU, fil, fia, fib, fie, by omega, by omega, by omega, by omega, by omega, by omega, by omega, by omega, by omega, by omega, by omega, by omega⟩
  exact loopC1 Z a0 hw E C ia ib ie c A B D P af pa sa ha il xa xb xe p9 u9 h0 n0 gc (by omega) hx4 u0 um yl hu1 hu2 hp 10 0 initF [0, 0, 0, 0] _ (by omega) hun T0 K12_
theorem Ct.nin {Z : State} {h : Heap} {c A B D P f pa sa ha CH TK : Nat} {la lb le lp : List Nat} {ls : Nat} {u : UFS} {ch tk : List Nat} {tc d1 x : Nat} (F : Ct Z h c A B D P f pa sa ha CH TK la lb le lp ls u ch tk tc d1) (q : x < c) : x ∉ [c, A, B, D, P, f, pa, sa, ha, CH, TK] := by
  obtain ⟨-, -, -, -, -, -, -, -, r1, r2, r3, r4, r5, r6, r7, r8, r9, r10⟩ := F
  intro hm
  simp only [List.mem_cons, List.not_mem_nil, or_false] at hm
  omega
theorem Ct.ltTK {Z : State} {h : Heap} {c A B D P f pa sa ha CH TK : Nat} {la lb le lp : List Nat} {ls : Nat} {u : UFS} {ch tk : List Nat} {tc d1 : Nat} (F : Ct Z h c A B D P f pa sa ha CH TK la lb le lp ls u ch tk tc d1) : TK < h.size ∧ c < TK := by
  obtain ⟨-, -, -, -, -, -, f7, -, r1, r2, r3, r4, r5, r6, r7, r8, r9, r10⟩ := F
  exact ⟨Ai.lt f7, by omega⟩
theorem takenF_01 {lp ch : List Nat} {d i r : Nat} (h : takenF lp ch d i = some r) : r = 0 ∨ r = 1 := by
  unfold takenF at h
  cases e1 : lp[i]? with
  | none => rw [e1] at h; cases h
  | some p =>
    rw [e1] at h; dsimp only at h
    by_cases c0 : p < 100 ∧ d < 100
    · rw [if_pos c0] at h
      by_cases c1 : p < d
      · rw [if_pos c1] at h
        cases e2 : ch[p]? with
        | none => rw [e2] at h; cases h
        | some x =>
          rw [e2] at h; dsimp only at h
          by_cases c2 : x = 1
          · rw [if_pos c2] at h; exact Or.inr (Option.some.inj h).symm
          · rw [if_neg c2] at h
            by_cases c3 : x < 100
            · rw [if_pos c3] at h; exact Or.inl (Option.some.inj h).symm
            · rw [if_neg c3] at h; cases h
      · rw [if_neg c1] at h; exact Or.inl (Option.some.inj h).symm
    · rw [if_neg c0] at h; cases h
theorem tail_of {lp : List Nat} {k0 k1 k2 k3 r : Nat} {S : CTV} {d : Nat} (h : tailF lp [k0, k1, k2, k3] r S d = true) : ∃ t0 t1 t2 t3 : Nat, takenF lp S.2.1 d 0 = some t0 ∧ takenF lp S.2.1 d 1 = some t1 ∧ takenF lp S.2.1 d 2 = some t2 ∧ takenF lp S.2.1 d 3 = some t3 ∧
    ((r = 0 ∧ t0 = 0 ∧ t1 = 0 ∧ t2 = 0 ∧ t3 = 0) ∨ (¬ r = 0 ∧ ∃ x0 x1 : Nat, S.2.2.1 = [x0, x1] ∧ S.2.2.2 = 2 ∧ x0 < 100 ∧ x1 < 100 ∧ t0 + t1 + t2 + t3 = 2 ∧ agN t0 x0 x1 10 = true ∧ agN t1 x0 x1 11 = true ∧ agN t2 x0 x1 12 = true ∧ agN t3 x0 x1 13 = true ∧
      (mN t0 k0 + mN t1 k1 + mN t2 k2 + mN t3 k3 = 3 ∨ mN t0 k0 + mN t1 k1 + mN t2 k2 + mN t3 k3 = 5 ∨ mN t0 k0 + mN t1 k1 + mN t2 k2 + mN t3 k3 = 6))) := by
  unfold tailF at h
  cases e0 : takenF lp S.2.1 d 0 with
  | none => rw [e0] at h; cases h
  | some t0 =>
    rw [e0] at h; dsimp only at h
    cases e1 : takenF lp S.2.1 d 1 with
    | none => rw [e1] at h; cases h
    | some t1 =>
      rw [e1] at h; dsimp only at h
      cases e2 : takenF lp S.2.1 d 2 with
      | none => rw [e2] at h; cases h
      | some t2 =>
        rw [e2] at h; dsimp only at h
        cases e3 : takenF lp S.2.1 d 3 with
        | none => rw [e3] at h; cases h
        | some t3 =>
          rw [e3] at h; dsimp only at h
          refine ⟨t0, t1, t2, t3, rfl, rfl, rfl, rfl, ?_⟩
          by_cases c : r = 0
          · rw [if_pos c] at h
            exact Or.inl ⟨c, of_decide_eq_true h⟩
          · rw [if_neg c] at h
            refine Or.inr ⟨c, ?_⟩
            split at h
            · rename_i x0 x1 hx
              simp only [Bool.and_eq_true] at h
              obtain ⟨h1, h2, h3, h4, h5, h6⟩ := h
              obtain ⟨q1, q2, q3, q4⟩ := of_decide_eq_true h1
              exact ⟨x0, x1, hx, q1, q2, q3, q4, h2, h3, h4, h5, of_decide_eq_true h6⟩
            · cases h
theorem mask_ok : ∀ (t0 t1 t2 t3 : Fin 2) (k0 k1 k2 k3 : Fin 4), t0.val + t1.val + t2.val + t3.val = 2 → (mN t0.val k0.val + mN t1.val k1.val + mN t2.val k2.val + mN t3.val k3.val = 3 ∨ mN t0.val k0.val + mN t1.val k1.val + mN t2.val k2.val + mN t3.val k3.val = 5 ∨ mN t0.val k0.val + mN t1.val k1.val + mN t2.val k2.val + mN t3.val k3.val = 6) →
    ((((bitV t0.val k0.val) ||| (bitV t1.val k1.val)) ||| (bitV t2.val k2.val)) ||| (bitV t3.val k3.val) = 3 ∨ (((bitV t0.val k0.val) ||| (bitV t1.val k1.val)) ||| (bitV t2.val k2.val)) ||| (bitV t3.val k3.val) = 5 ∨ (((bitV t0.val k0.val) ||| (bitV t1.val k1.val)) ||| (bitV t2.val k2.val)) ||| (bitV t3.val k3.val) = 6) := by decide +kernel
theorem lt2 {t : Nat} (h : t = 0 ∨ t = 1) : t < 2 := by omega
def Q1 (v : Option Value) (h : Heap) : Prop := v = some (.int 1)
set_option maxRecDepth 65536 in
set_option maxHeartbeats 4000000 in
theorem t182 (Z : State) (a0 : Array Value) (hw : ∀ d ∈ tables_1, d.before a0 Z = true) (E : Noise) (C : Cx E Z "com/example/joinweave/joinweave/graph/CoreTreesTakenPinLaw" "law" code 20 (some .boolean)) (c A B D P f pa sa ha CH TK : Nat) (ia ib kd ie : Nat) (sh en sp pr : Int32) (la lb le lp : List Nat) (k0 k1 k2 k3 : Fin 4) (n0 : Nat) (ge : n0 ≤ c) (hkd : kd < c) (nn : Int32) (r : Nat) (S : CTV) (d : Nat) (h : Heap) (h01 : r = 0 ∨ r = 1) (ht : tailF lp [k0.val, k1.val, k2.val, k3.val] r S d = true) (T : Ct Z h c A B D P f pa sa ha CH TK la lb le lp 2 S.1 S.2.1 S.2.2.1 S.2.2.2 d) (fk : An Z h kd .int [k0.val, k1.val, k2.val, k3.val]) : Go E room_1 n0 Q1 h 16 65 182 #[.val (.int sh), .val (.int en), .val (.int sp), .val (.ref ia), .val (.ref ib), .val (.ref kd), .val (.ref ie), .val (.int pr), .val (.ref c), .val (.int nn), .val (.int (Int32.ofNat r)), .unset, .unset, .unset, .unset, .unset, .unset, .unset, .unset, .unset] [] := by
  obtain ⟨u, ch, tk, tc⟩ := S
  obtain ⟨t0, t1, t2, t3, e0, e1, e2, e3, hcase⟩ := tail_of ht
  dsimp only at e0 e1 e2 e3 hcase T
  refine go_aload C (pc' := 184) at_182 rfl rfl rfl ?_
  refine go_iconst C (pc' := 185) (z := 0) at_184 rfl rfl ?_
  refine go_callV C (pc' := 188) (k' := 16) (n' := 65) (argsL := [(.int (0 : Int32))]) (rest := []) (own_w hw (i := 95) rfl) (own_w hw (i := 96) rfl) (own_w hw (i := 98) rfl) (own_w hw (i := 97) rfl) (own_w hw (i := 7) rfl) (own_w hw (i := 99) rfl) (T.1.1) (rmK Z a0 hw c A B D P f pa sa ha CH TK la lb le lp 2 u ch tk tc d 0 t0 h n0 T e0) at_185 rfl rfl (lenOf pd8 rfl) (by decide) (by decide) 0 rfl (by decide) rfl rfl (by decide) (by decide) rfl ?_
  rintro _ _ ⟨rfl, rfl⟩
  show Go E room_1 n0 Q1 h 16 65 188 #[.val (.int sh), .val (.int en), .val (.int sp), .val (.ref ia), .val (.ref ib), .val (.ref kd), .val (.ref ie), .val (.int pr), .val (.ref c), .val (.int nn), .val (.int (Int32.ofNat r)), .unset, .unset, .unset, .unset, .unset, .unset, .unset, .unset, .unset] [(.int (Int32.ofNat t0))]
  refine go_istore C (pc' := 190) (Ls' := #[.val (.int sh), .val (.int en), .val (.int sp), .val (.ref ia), .val (.ref ib), .val (.ref kd), .val (.ref ie), .val (.int pr), .val (.ref c), .val (.int nn), .val (.int (Int32.ofNat r)), .val (.int (Int32.ofNat t0)), .unset, .unset, .unset, .unset, .unset, .unset, .unset, .unset]) at_188 rfl rfl ?_
  refine go_aload C (pc' := 192) at_190 rfl rfl rfl ?_
  refine go_iconst C (pc' := 193) (z := 1) at_192 rfl rfl ?_
  refine go_callV C (pc' := 196) (k' := 16) (n' := 65) (argsL := [(.int (1 : Int32))]) (rest := []) (own_w hw (i := 95) rfl) (own_w hw (i := 96) rfl) (own_w hw (i := 98) rfl) (own_w hw (i := 97) rfl) (own_w hw (i := 7) rfl) (own_w hw (i := 99) rfl) (T.1.1) (rmK Z a0 hw c A B D P f pa sa ha CH TK la lb le lp 2 u ch tk tc d 1 t1 h n0 T e1) at_193 rfl rfl (lenOf pd8 rfl) (by decide) (by decide) 0 rfl (by decide) rfl rfl (by decide) (by decide) rfl ?_
  rintro _ _ ⟨rfl, rfl⟩
  show Go E room_1 n0 Q1 h 16 65 196 #[.val (.int sh), .val (.int en), .val (.int sp), .val (.ref ia), .val (.ref ib), .val (.ref kd), .val (.ref ie), .val (.int pr), .val (.ref c), .val (.int nn), .val (.int (Int32.ofNat r)), .val (.int (Int32.ofNat t0)), .unset, .unset, .unset, .unset, .unset, .unset, .unset, .unset] [(.int (Int32.ofNat t1))]
  refine go_istore C (pc' := 198) (Ls' := #[.val (.int sh), .val (.int en), .val (.int sp), .val (.ref ia), .val (.ref ib), .val (.ref kd), .val (.ref ie), .val (.int pr), .val (.ref c), .val (.int nn), .val (.int (Int32.ofNat r)), .val (.int (Int32.ofNat t0)), .val (.int (Int32.ofNat t1)), .unset, .unset, .unset, .unset, .unset, .unset, .unset]) at_196 rfl rfl ?_
  refine go_aload C (pc' := 200) at_198 rfl rfl rfl ?_
  refine go_iconst C (pc' := 201) (z := 2) at_200 rfl rfl ?_
  refine go_callV C (pc' := 204) (k' := 16) (n' := 65) (argsL := [(.int (2 : Int32))]) (rest := []) (own_w hw (i := 95) rfl) (own_w hw (i := 96) rfl) (own_w hw (i := 98) rfl) (own_w hw (i := 97) rfl) (own_w hw (i := 7) rfl) (own_w hw (i := 99) rfl) (T.1.1) (rmK Z a0 hw c A B D P f pa sa ha CH TK la lb le lp 2 u ch tk tc d 2 t2 h n0 T e2) at_201 rfl rfl (lenOf pd8 rfl) (by decide) (by decide) 0 rfl (by decide) rfl rfl (by decide) (by decide) rfl ?_
  rintro _ _ ⟨rfl, rfl⟩
  show Go E room_1 n0 Q1 h 16 65 204 #[.val (.int sh), .val (.int en), .val (.int sp), .val (.ref ia), .val (.ref ib), .val (.ref kd), .val (.ref ie), .val (.int pr), .val (.ref c), .val (.int nn), .val (.int (Int32.ofNat r)), .val (.int (Int32.ofNat t0)), .val (.int (Int32.ofNat t1)), .unset, .unset, .unset, .unset, .unset, .unset, .unset] [(.int (Int32.ofNat t2))]
  refine go_istore C (pc' := 206) (Ls' := #[.val (.int sh), .val (.int en), .val (.int sp), .val (.ref ia), .val (.ref ib), .val (.ref kd), .val (.ref ie), .val (.int pr), .val (.ref c), .val (.int nn), .val (.int (Int32.ofNat r)), .val (.int (Int32.ofNat t0)), .val (.int (Int32.ofNat t1)), .val (.int (Int32.ofNat t2)), .unset, .unset, .unset, .unset, .unset, .unset]) at_204 rfl rfl ?_
  refine go_aload C (pc' := 208) at_206 rfl rfl rfl ?_
  refine go_iconst C (pc' := 209) (z := 3) at_208 rfl rfl ?_
  refine go_callV C (pc' := 212) (k' := 16) (n' := 65) (argsL := [(.int (3 : Int32))]) (rest := []) (own_w hw (i := 95) rfl) (own_w hw (i := 96) rfl) (own_w hw (i := 98) rfl) (own_w hw (i := 97) rfl) (own_w hw (i := 7) rfl) (own_w hw (i := 99) rfl) (T.1.1) (rmK Z a0 hw c A B D P f pa sa ha CH TK la lb le lp 2 u ch tk tc d 3 t3 h n0 T e3) at_209 rfl rfl (lenOf pd8 rfl) (by decide) (by decide) 0 rfl (by decide) rfl rfl (by decide) (by decide) rfl ?_
  rintro _ _ ⟨rfl, rfl⟩
  show Go E room_1 n0 Q1 h 16 65 212 #[.val (.int sh), .val (.int en), .val (.int sp), .val (.ref ia), .val (.ref ib), .val (.ref kd), .val (.ref ie), .val (.int pr), .val (.ref c), .val (.int nn), .val (.int (Int32.ofNat r)), .val (.int (Int32.ofNat t0)), .val (.int (Int32.ofNat t1)), .val (.int (Int32.ofNat t2)), .unset, .unset, .unset, .unset, .unset, .unset] [(.int (Int32.ofNat t3))]
  refine go_istore C (pc' := 214) (Ls' := #[.val (.int sh), .val (.int en), .val (.int sp), .val (.ref ia), .val (.ref ib), .val (.ref kd), .val (.ref ie), .val (.int pr), .val (.ref c), .val (.int nn), .val (.int (Int32.ofNat r)), .val (.int (Int32.ofNat t0)), .val (.int (Int32.ofNat t1)), .val (.int (Int32.ofNat t2)), .val (.int (Int32.ofNat t3)), .unset, .unset, .unset, .unset, .unset]) at_212 rfl rfl ?_
  refine go_iload C (pc' := 216) at_214 rfl rfl ?_
  rcases hcase with ⟨rfl, rfl, rfl, rfl, rfl⟩ | ⟨hr0, x0, x1, rfl, rfl, hx0, hx1, hsum, g0, g1, g2, g3, hmN⟩
  · skip
    refine go_ifN C (pc' := 219) at_216 (by decide) rfl ?_
    refine go_iload C (pc' := 221) at_219 rfl rfl ?_
    refine go_ifN C (pc' := 224) at_221 (by decide) rfl ?_
    refine go_iload C (pc' := 226) at_224 rfl rfl ?_
    refine go_ifN C (pc' := 229) at_226 (by decide) rfl ?_
    refine go_iload C (pc' := 231) at_229 rfl rfl ?_
    refine go_ifN C (pc' := 234) at_231 (by decide) rfl ?_
    refine go_iload C (pc' := 236) at_234 rfl rfl ?_
    refine go_ifN C (pc' := 239) at_236 (by decide) rfl ?_
    refine go_iconst C (pc' := 240) (z := 1) at_239 rfl rfl ?_
    refine go_goto C (pc' := 244) at_240 (by decide) (by decide) ?_
    refine go_retZ C at_244 (by decide) (by decide) (by decide) ?_
    exact rfl
  · skip
    obtain rfl : r = 1 := by omega
    refine go_ifY C (pc' := 245) at_216 (by decide) (by decide) (by decide) ?_
    refine go_iconst C (pc' := 246) (z := 2) at_245 rfl rfl ?_
    refine go_nnew C (aty := .int) (z := 2) (pc' := 248) (k' := 17) (n' := 67) (own_w hw (i := 0) rfl) rfl (by decide) at_246 rfl rfl (by decide) (by decide) rfl ?_
    intro h1 x1_ B1
    obtain ⟨t, et⟩ : ∃ q, q = h.size := ⟨_, rfl⟩
    rw [← et] at B1 ⊢
    have tlt := T.ltTK
    have T1 := T.ext x1_
    have fk1 := Ai.ext fk x1_
    have flt := Ai.lt fk
    refine go_astore C (pc' := 250) (Ls' := #[.val (.int sh), .val (.int en), .val (.int sp), .val (.ref ia), .val (.ref ib), .val (.ref kd), .val (.ref ie), .val (.int pr), .val (.ref c), .val (.int nn), .val (.int (Int32.ofNat 1)), .val (.int (Int32.ofNat t0)), .val (.int (Int32.ofNat t1)), .val (.int (Int32.ofNat t2)), .val (.int (Int32.ofNat t3)), .val (.ref t), .unset, .unset, .unset, .unset]) at_248 rfl rfl rfl ?_
    refine go_aload C (pc' := 252) at_250 rfl rfl rfl ?_
    refine go_aload C (pc' := 254) at_252 rfl rfl rfl ?_
    refine go_iconst C (pc' := 255) (z := 0) at_254 rfl rfl ?_
    refine go_callV C (pc' := 258) (k' := 17) (n' := 67) (argsL := [(.ref t), (.int (0 : Int32))]) (rest := []) (own_w hw (i := 100) rfl) (own_w hw (i := 101) rfl) (own_w hw (i := 103) rfl) (own_w hw (i := 102) rfl) (own_w hw (i := 7) rfl) (own_w hw (i := 104) rfl) (T1.1.1) (rmCp Z a0 hw c A B D P f pa sa ha CH TK la lb le lp 2 u ch d t x0 x1 0 0 h1 n0 (by omega) (by omega) T1 B1) at_255 rfl rfl (lenOf pd10 rfl) (by decide) (by decide) 0 rfl (by decide) rfl rfl (by decide) (by decide) rfl ?_
    rintro _ h2 ⟨rfl, K2, B2⟩
    have fk2 : An Z h2 kd .int [k0.val, k1.val, k2.val, k3.val] := Ai.keep fk1 K2 (nnS (by omega) nin0)
    show Go E room_1 n0 Q1 h2 17 67 258 #[.val (.int sh), .val (.int en), .val (.int sp), .val (.ref ia), .val (.ref ib), .val (.ref kd), .val (.ref ie), .val (.int pr), .val (.ref c), .val (.int nn), .val (.int (Int32.ofNat 1)), .val (.int (Int32.ofNat t0)), .val (.int (Int32.ofNat t1)), .val (.int (Int32.ofNat t2)), .val (.int (Int32.ofNat t3)), .val (.ref t), .unset, .unset, .unset, .unset] [(.int (2 : Int32))]
    refine go_istore C (pc' := 260) (Ls' := #[.val (.int sh), .val (.int en), .val (.int sp), .val (.ref ia), .val (.ref ib), .val (.ref kd), .val (.ref ie), .val (.int pr), .val (.ref c), .val (.int nn), .val (.int (Int32.ofNat 1)), .val (.int (Int32.ofNat t0)), .val (.int (Int32.ofNat t1)), .val (.int (Int32.ofNat t2)), .val (.int (Int32.ofNat t3)), .val (.ref t), .val (.int (2 : Int32)), .unset, .unset, .unset]) at_258 rfl rfl ?_
    refine go_iload C (pc' := 262) at_260 rfl rfl ?_
    refine go_iconst C (pc' := 263) (z := 2) at_262 rfl rfl ?_
    refine go_icY C (pc' := 268) at_263 (teq rfl).1 (by decide) (by decide) ?_
    have w0 := takenF_01 e0
    have w1 := takenF_01 e1
    have w2 := takenF_01 e2
    have w3 := takenF_01 e3
    have J380 : ∀ mk : Int32, Go E room_1 n0 Q1 h2 17 67 380 #[.val (.int sh), .val (.int en), .val (.int sp), .val (.ref ia), .val (.ref ib), .val (.ref kd), .val (.ref ie), .val (.int pr), .val (.ref c), .val (.int nn), .val (.int (Int32.ofNat 1)), .val (.int (Int32.ofNat t0)), .val (.int (Int32.ofNat t1)), .val (.int (Int32.ofNat t2)), .val (.int (Int32.ofNat t3)), .val (.ref t), .val (.int (2 : Int32)), .val (.int (2 : Int32)), .val (.int mk), .val (.int (1 : Int32))] [] := by
      intro mk
      refine go_iload C (pc' := 382) at_380 rfl rfl ?_
      refine go_iconst C (pc' := 383) (z := 2) at_382 rfl rfl ?_
      refine go_icN C (pc' := 386) at_383 (teq rfl).2 rfl ?_
      refine go_iload C (pc' := 388) at_386 rfl rfl ?_
      refine go_ifN C (pc' := 391) at_388 (by decide) rfl ?_
      refine go_iload C (pc' := 393) at_391 rfl rfl ?_
      refine go_aload C (pc' := 395) at_393 rfl rfl rfl ?_
      refine go_bipush C (pc' := 397) (z := 10) at_395 rfl rfl ?_
      refine go_callS C (pc' := 400) (k' := 17) (n' := 67) (argsL := [(.int (Int32.ofNat t0)), (.ref t), (.int (10 : Int32))]) (rest := []) (own_w hw (i := 112) rfl) (own_w hw (i := 113) rfl) (own_w hw (i := 3) rfl) (own_w hw (i := 114) rfl) (rmAg Z t0 t x0 x1 10 h2 n0 g0 hx0 hx1 (by decide) B2) at_397 rfl rfl (lenOf pd12 rfl) (by decide) (by decide) 0 rfl (by decide) rfl rfl (by decide) (by decide) rfl ?_
      rintro _ _ ⟨rfl, rfl⟩
      show Go E room_1 n0 Q1 h2 17 67 400 #[.val (.int sh), .val (.int en), .val (.int sp), .val (.ref ia), .val (.ref ib), .val (.ref kd), .val (.ref ie), .val (.int pr), .val (.ref c), .val (.int nn), .val (.int (Int32.ofNat 1)), .val (.int (Int32.ofNat t0)), .val (.int (Int32.ofNat t1)), .val (.int (Int32.ofNat t2)), .val (.int (Int32.ofNat t3)), .val (.ref t), .val (.int (2 : Int32)), .val (.int (2 : Int32)), .val (.int mk), .val (.int (1 : Int32))] [(.int (1 : Int32))]
      refine go_ifN C (pc' := 403) at_400 (by decide) rfl ?_
      refine go_iload C (pc' := 405) at_403 rfl rfl ?_
      refine go_aload C (pc' := 407) at_405 rfl rfl rfl ?_
      refine go_bipush C (pc' := 409) (z := 11) at_407 rfl rfl ?_
      refine go_callS C (pc' := 412) (k' := 17) (n' := 67) (argsL := [(.int (Int32.ofNat t1)), (.ref t), (.int (11 : Int32))]) (rest := []) (own_w hw (i := 112) rfl) (own_w hw (i := 113) rfl) (own_w hw (i := 3) rfl) (own_w hw (i := 114) rfl) (rmAg Z t1 t x0 x1 11 h2 n0 g1 hx0 hx1 (by decide) B2) at_409 rfl rfl (lenOf pd12 rfl) (by decide) (by decide) 0 rfl (by decide) rfl rfl (by decide) (by decide) rfl ?_
      rintro _ _ ⟨rfl, rfl⟩
      show Go E room_1 n0 Q1 h2 17 67 412 #[.val (.int sh), .val (.int en), .val (.int sp), .val (.ref ia), .val (.ref ib), .val (.ref kd), .val (.ref ie), .val (.int pr), .val (.ref c), .val (.int nn), .val (.int (Int32.ofNat 1)), .val (.int (Int32.ofNat t0)), .val (.int (Int32.ofNat t1)), .val (.int (Int32.ofNat t2)), .val (.int (Int32.ofNat t3)), .val (.ref t), .val (.int (2 : Int32)), .val (.int (2 : Int32)), .val (.int mk), .val (.int (1 : Int32))] [(.int (1 : Int32))]
      refine go_ifN C (pc' := 415) at_412 (by decide) rfl ?_
      refine go_iload C (pc' := 417) at_415 rfl rfl ?_
      refine go_aload C (pc' := 419) at_417 rfl rfl rfl ?_
      refine go_bipush C (pc' := 421) (z := 12) at_419 rfl rfl ?_
      refine go_callS C (pc' := 424) (k' := 17) (n' := 67) (argsL := [(.int (Int32.ofNat t2)), (.ref t), (.int (12 : Int32))]) (rest := []) (own_w hw (i := 112) rfl) (own_w hw (i := 113) rfl) (own_w hw (i := 3) rfl) (own_w hw (i := 114) rfl) (rmAg Z t2 t x0 x1 12 h2 n0 g2 hx0 hx1 (by decide) B2) at_421 rfl rfl (lenOf pd12 rfl) (by decide) (by decide) 0 rfl (by decide) rfl rfl (by decide) (by decide) rfl ?_
      rintro _ _ ⟨rfl, rfl⟩
      show Go E room_1 n0 Q1 h2 17 67 424 #[.val (.int sh), .val (.int en), .val (.int sp), .val (.ref ia), .val (.ref ib), .val (.ref kd), .val (.ref ie), .val (.int pr), .val (.ref c), .val (.int nn), .val (.int (Int32.ofNat 1)), .val (.int (Int32.ofNat t0)), .val (.int (Int32.ofNat t1)), .val (.int (Int32.ofNat t2)), .val (.int (Int32.ofNat t3)), .val (.ref t), .val (.int (2 : Int32)), .val (.int (2 : Int32)), .val (.int mk), .val (.int (1 : Int32))] [(.int (1 : Int32))]
      refine go_ifN C (pc' := 427) at_424 (by decide) rfl ?_
      refine go_iload C (pc' := 429) at_427 rfl rfl ?_
      refine go_aload C (pc' := 431) at_429 rfl rfl rfl ?_
      refine go_bipush C (pc' := 433) (z := 13) at_431 rfl rfl ?_
      refine go_callS C (pc' := 436) (k' := 17) (n' := 67) (argsL := [(.int (Int32.ofNat t3)), (.ref t), (.int (13 : Int32))]) (rest := []) (own_w hw (i := 112) rfl) (own_w hw (i := 113) rfl) (own_w hw (i := 3) rfl) (own_w hw (i := 114) rfl) (rmAg Z t3 t x0 x1 13 h2 n0 g3 hx0 hx1 (by decide) B2) at_433 rfl rfl (lenOf pd12 rfl) (by decide) (by decide) 0 rfl (by decide) rfl rfl (by decide) (by decide) rfl ?_
      rintro _ _ ⟨rfl, rfl⟩
      show Go E room_1 n0 Q1 h2 17 67 436 #[.val (.int sh), .val (.int en), .val (.int sp), .val (.ref ia), .val (.ref ib), .val (.ref kd), .val (.ref ie), .val (.int pr), .val (.ref c), .val (.int nn), .val (.int (Int32.ofNat 1)), .val (.int (Int32.ofNat t0)), .val (.int (Int32.ofNat t1)), .val (.int (Int32.ofNat t2)), .val (.int (Int32.ofNat t3)), .val (.ref t), .val (.int (2 : Int32)), .val (.int (2 : Int32)), .val (.int mk), .val (.int (1 : Int32))] [(.int (1 : Int32))]
      refine go_ifN C (pc' := 439) at_436 (by decide) rfl ?_
      refine go_iconst C (pc' := 440) (z := 1) at_439 rfl rfl ?_
      refine go_goto C (pc' := 444) at_440 (by decide) (by decide) ?_
      refine go_retZ C at_444 (by decide) (by decide) (by decide) ?_
      exact rfl
    have J313 : Go E room_1 n0 Q1 h2 17 67 313 #[.val (.int sh), .val (.int en), .val (.int sp), .val (.ref ia), .val (.ref ib), .val (.ref kd), .val (.ref ie), .val (.int pr), .val (.ref c), .val (.int nn), .val (.int (Int32.ofNat 1)), .val (.int (Int32.ofNat t0)), .val (.int (Int32.ofNat t1)), .val (.int (Int32.ofNat t2)), .val (.int (Int32.ofNat t3)), .val (.ref t), .val (.int (2 : Int32)), .val (.int (2 : Int32)), .unset, .unset] [] := by
      refine go_iload C (pc' := 315) at_313 rfl rfl ?_
      refine go_aload C (pc' := 317) at_315 rfl rfl rfl ?_
      refine go_iconst C (pc' := 318) (z := 0) at_317 rfl rfl ?_
      refine go_nload (i := 0) (v := k0.val) C (pc' := 319) fk2 rfl at_318 rfl ?_
      refine go_callS C (pc' := 322) (k' := 17) (n' := 67) (argsL := [(.int (Int32.ofNat t0)), (.int (Int32.ofNat k0.val))]) (rest := []) (own_w hw (i := 109) rfl) (own_w hw (i := 110) rfl) (own_w hw (i := 3) rfl) (own_w hw (i := 111) rfl) (rmBit Z t0 k0.val h2 n0 w0) at_319 rfl rfl (lenOf pd11 rfl) (by decide) (by decide) 0 rfl (by decide) rfl rfl (by decide) (by decide) rfl ?_
      rintro _ _ ⟨rfl, rfl⟩
      show Go E room_1 n0 Q1 h2 17 67 322 #[.val (.int sh), .val (.int en), .val (.int sp), .val (.ref ia), .val (.ref ib), .val (.ref kd), .val (.ref ie), .val (.int pr), .val (.ref c), .val (.int nn), .val (.int (Int32.ofNat 1)), .val (.int (Int32.ofNat t0)), .val (.int (Int32.ofNat t1)), .val (.int (Int32.ofNat t2)), .val (.int (Int32.ofNat t3)), .val (.ref t), .val (.int (2 : Int32)), .val (.int (2 : Int32)), .unset, .unset] [(.int (bitV t0 k0.val))]
      refine go_iload C (pc' := 324) at_322 rfl rfl ?_
      refine go_aload C (pc' := 326) at_324 rfl rfl rfl ?_
      refine go_iconst C (pc' := 327) (z := 1) at_326 rfl rfl ?_
      refine go_nload (i := 1) (v := k1.val) C (pc' := 328) fk2 rfl at_327 rfl ?_
      refine go_callS C (pc' := 331) (k' := 17) (n' := 67) (argsL := [(.int (Int32.ofNat t1)), (.int (Int32.ofNat k1.val))]) (rest := [(.int (bitV t0 k0.val))]) (own_w hw (i := 109) rfl) (own_w hw (i := 110) rfl) (own_w hw (i := 3) rfl) (own_w hw (i := 111) rfl) (rmBit Z t1 k1.val h2 n0 w1) at_328 rfl rfl (lenOf pd11 rfl) (by decide) (by decide) 1 rfl (by decide) rfl rfl (by decide) (by decide) rfl ?_
      rintro _ _ ⟨rfl, rfl⟩
      show Go E room_1 n0 Q1 h2 17 67 331 #[.val (.int sh), .val (.int en), .val (.int sp), .val (.ref ia), .val (.ref ib), .val (.ref kd), .val (.ref ie), .val (.int pr), .val (.ref c), .val (.int nn), .val (.int (Int32.ofNat 1)), .val (.int (Int32.ofNat t0)), .val (.int (Int32.ofNat t1)), .val (.int (Int32.ofNat t2)), .val (.int (Int32.ofNat t3)), .val (.ref t), .val (.int (2 : Int32)), .val (.int (2 : Int32)), .unset, .unset] [(.int (bitV t1 k1.val)), (.int (bitV t0 k0.val))]
      refine go_ior C (pc' := 332) at_331 rfl ?_
      refine go_iload C (pc' := 334) at_332 rfl rfl ?_
      refine go_aload C (pc' := 336) at_334 rfl rfl rfl ?_
      refine go_iconst C (pc' := 337) (z := 2) at_336 rfl rfl ?_
      refine go_nload (i := 2) (v := k2.val) C (pc' := 338) fk2 rfl at_337 rfl ?_
      refine go_callS C (pc' := 341) (k' := 17) (n' := 67) (argsL := [(.int (Int32.ofNat t2)), (.int (Int32.ofNat k2.val))]) (rest := [(.int ((bitV t0 k0.val) ||| (bitV t1 k1.val)))]) (own_w hw (i := 109) rfl) (own_w hw (i := 110) rfl) (own_w hw (i := 3) rfl) (own_w hw (i := 111) rfl) (rmBit Z t2 k2.val h2 n0 w2) at_338 rfl rfl (lenOf pd11 rfl) (by decide) (by decide) 1 rfl (by decide) rfl rfl (by decide) (by decide) rfl ?_
      rintro _ _ ⟨rfl, rfl⟩
      show Go E room_1 n0 Q1 h2 17 67 341 #[.val (.int sh), .val (.int en), .val (.int sp), .val (.ref ia), .val (.ref ib), .val (.ref kd), .val (.ref ie), .val (.int pr), .val (.ref c), .val (.int nn), .val (.int (Int32.ofNat 1)), .val (.int (Int32.ofNat t0)), .val (.int (Int32.ofNat t1)), .val (.int (Int32.ofNat t2)), .val (.int (Int32.ofNat t3)), .val (.ref t), .val (.int (2 : Int32)), .val (.int (2 : Int32)), .unset, .unset] [(.int (bitV t2 k2.val)), (.int ((bitV t0 k0.val) ||| (bitV t1 k1.val)))]
      refine go_ior C (pc' := 342) at_341 rfl ?_
      refine go_iload C (pc' := 344) at_342 rfl rfl ?_
      refine go_aload C (pc' := 346) at_344 rfl rfl rfl ?_
      refine go_iconst C (pc' := 347) (z := 3) at_346 rfl rfl ?_
      refine go_nload (i := 3) (v := k3.val) C (pc' := 348) fk2 rfl at_347 rfl ?_
      refine go_callS C (pc' := 351) (k' := 17) (n' := 67) (argsL := [(.int (Int32.ofNat t3)), (.int (Int32.ofNat k3.val))]) (rest := [(.int (((bitV t0 k0.val) ||| (bitV t1 k1.val)) ||| (bitV t2 k2.val)))]) (own_w hw (i := 109) rfl) (own_w hw (i := 110) rfl) (own_w hw (i := 3) rfl) (own_w hw (i := 111) rfl) (rmBit Z t3 k3.val h2 n0 w3) at_348 rfl rfl (lenOf pd11 rfl) (by decide) (by decide) 1 rfl (by decide) rfl rfl (by decide) (by decide) rfl ?_
      rintro _ _ ⟨rfl, rfl⟩
      show Go E room_1 n0 Q1 h2 17 67 351 #[.val (.int sh), .val (.int en), .val (.int sp), .val (.ref ia), .val (.ref ib), .val (.ref kd), .val (.ref ie), .val (.int pr), .val (.ref c), .val (.int nn), .val (.int (Int32.ofNat 1)), .val (.int (Int32.ofNat t0)), .val (.int (Int32.ofNat t1)), .val (.int (Int32.ofNat t2)), .val (.int (Int32.ofNat t3)), .val (.ref t), .val (.int (2 : Int32)), .val (.int (2 : Int32)), .unset, .unset] [(.int (bitV t3 k3.val)), (.int (((bitV t0 k0.val) ||| (bitV t1 k1.val)) ||| (bitV t2 k2.val)))]
      refine go_ior C (pc' := 352) at_351 rfl ?_
      have hm := mask_ok ⟨t0, lt2 w0⟩ ⟨t1, lt2 w1⟩ ⟨t2, lt2 w2⟩ ⟨t3, lt2 w3⟩ k0 k1 k2 k3 hsum hmN
      dsimp only at hm
      rcases hm with hm | hm | hm
      · rw [hm]
        refine go_istore C (pc' := 354) (Ls' := #[.val (.int sh), .val (.int en), .val (.int sp), .val (.ref ia), .val (.ref ib), .val (.ref kd), .val (.ref ie), .val (.int pr), .val (.ref c), .val (.int nn), .val (.int (Int32.ofNat 1)), .val (.int (Int32.ofNat t0)), .val (.int (Int32.ofNat t1)), .val (.int (Int32.ofNat t2)), .val (.int (Int32.ofNat t3)), .val (.ref t), .val (.int (2 : Int32)), .val (.int (2 : Int32)), .val (.int (3 : Int32)), .unset]) at_352 rfl rfl ?_
        refine go_iload C (pc' := 356) at_354 rfl rfl ?_
        refine go_iconst C (pc' := 357) (z := 3) at_356 rfl rfl ?_
        refine go_icY C (pc' := 373) at_357 (by decide) (by decide) (by decide) ?_
        refine go_iconst C (pc' := 374) (z := 1) at_373 rfl rfl ?_
        refine go_goto C (pc' := 378) at_374 (by decide) (by decide) ?_
        refine go_istore C (pc' := 380) (Ls' := #[.val (.int sh), .val (.int en), .val (.int sp), .val (.ref ia), .val (.ref ib), .val (.ref kd), .val (.ref ie), .val (.int pr), .val (.ref c), .val (.int nn), .val (.int (Int32.ofNat 1)), .val (.int (Int32.ofNat t0)), .val (.int (Int32.ofNat t1)), .val (.int (Int32.ofNat t2)), .val (.int (Int32.ofNat t3)), .val (.ref t), .val (.int (2 : Int32)), .val (.int (2 : Int32)), .val (.int (3 : Int32)), .val (.int (1 : Int32))]) at_378 rfl rfl ?_
        exact J380 _
      · rw [hm]
        refine go_istore C (pc' := 354) (Ls' := #[.val (.int sh), .val (.int en), .val (.int sp), .val (.ref ia), .val (.ref ib), .val (.ref kd), .val (.ref ie), .val (.int pr), .val (.ref c), .val (.int nn), .val (.int (Int32.ofNat 1)), .val (.int (Int32.ofNat t0)), .val (.int (Int32.ofNat t1)), .val (.int (Int32.ofNat t2)), .val (.int (Int32.ofNat t3)), .val (.ref t), .val (.int (2 : Int32)), .val (.int (2 : Int32)), .val (.int (5 : Int32)), .unset]) at_352 rfl rfl ?_
        refine go_iload C (pc' := 356) at_354 rfl rfl ?_
        refine go_iconst C (pc' := 357) (z := 3) at_356 rfl rfl ?_
        refine go_icN C (pc' := 360) at_357 (by decide) rfl ?_
        refine go_iload C (pc' := 362) at_360 rfl rfl ?_
        refine go_iconst C (pc' := 363) (z := 5) at_362 rfl rfl ?_
        refine go_icY C (pc' := 373) at_363 (by decide) (by decide) (by decide) ?_
        refine go_iconst C (pc' := 374) (z := 1) at_373 rfl rfl ?_
        refine go_goto C (pc' := 378) at_374 (by decide) (by decide) ?_
        refine go_istore C (pc' := 380) (Ls' := #[.val (.int sh), .val (.int en), .val (.int sp), .val (.ref ia), .val (.ref ib), .val (.ref kd), .val (.ref ie), .val (.int pr), .val (.ref c), .val (.int nn), .val (.int (Int32.ofNat 1)), .val (.int (Int32.ofNat t0)), .val (.int (Int32.ofNat t1)), .val (.int (Int32.ofNat t2)), .val (.int (Int32.ofNat t3)), .val (.ref t), .val (.int (2 : Int32)), .val (.int (2 : Int32)), .val (.int (5 : Int32)), .val (.int (1 : Int32))]) at_378 rfl rfl ?_
        exact J380 _
      · rw [hm]
        refine go_istore C (pc' := 354) (Ls' := #[.val (.int sh), .val (.int en), .val (.int sp), .val (.ref ia), .val (.ref ib), .val (.ref kd), .val (.ref ie), .val (.int pr), .val (.ref c), .val (.int nn), .val (.int (Int32.ofNat 1)), .val (.int (Int32.ofNat t0)), .val (.int (Int32.ofNat t1)), .val (.int (Int32.ofNat t2)), .val (.int (Int32.ofNat t3)), .val (.ref t), .val (.int (2 : Int32)), .val (.int (2 : Int32)), .val (.int (6 : Int32)), .unset]) at_352 rfl rfl ?_
        refine go_iload C (pc' := 356) at_354 rfl rfl ?_
        refine go_iconst C (pc' := 357) (z := 3) at_356 rfl rfl ?_
        refine go_icN C (pc' := 360) at_357 (by decide) rfl ?_
        refine go_iload C (pc' := 362) at_360 rfl rfl ?_
        refine go_iconst C (pc' := 363) (z := 5) at_362 rfl rfl ?_
        refine go_icN C (pc' := 366) at_363 (by decide) rfl ?_
        refine go_iload C (pc' := 368) at_366 rfl rfl ?_
        refine go_bipush C (pc' := 370) (z := 6) at_368 rfl rfl ?_
        refine go_icN C (pc' := 373) at_370 (by decide) rfl ?_
        refine go_iconst C (pc' := 374) (z := 1) at_373 rfl rfl ?_
        refine go_goto C (pc' := 378) at_374 (by decide) (by decide) ?_
        refine go_istore C (pc' := 380) (Ls' := #[.val (.int sh), .val (.int en), .val (.int sp), .val (.ref ia), .val (.ref ib), .val (.ref kd), .val (.ref ie), .val (.int pr), .val (.ref c), .val (.int nn), .val (.int (Int32.ofNat 1)), .val (.int (Int32.ofNat t0)), .val (.int (Int32.ofNat t1)), .val (.int (Int32.ofNat t2)), .val (.int (Int32.ofNat t3)), .val (.ref t), .val (.int (2 : Int32)), .val (.int (2 : Int32)), .val (.int (6 : Int32)), .val (.int (1 : Int32))]) at_378 rfl rfl ?_
        exact J380 _
    refine go_iload C (pc' := 270) at_268 rfl rfl ?_
    rcases w0 with rfl | rfl
    · skip
      refine go_ifY C (pc' := 277) at_270 (by decide) (by decide) (by decide) ?_
      refine go_iconst C (pc' := 278) (z := 0) at_277 rfl rfl ?_
      refine go_iload C (pc' := 280) at_278 rfl rfl ?_
      rcases w1 with rfl | rfl
      · skip
        refine go_ifY C (pc' := 287) at_280 (by decide) (by decide) (by decide) ?_
        refine go_iconst C (pc' := 288) (z := 0) at_287 rfl rfl ?_
        refine go_iadd C (pc' := 289) at_288 rfl ?_
        refine go_iload C (pc' := 291) at_289 rfl rfl ?_
        rcases w2 with rfl | rfl
        · skip
          refine go_ifY C (pc' := 298) at_291 (by decide) (by decide) (by decide) ?_
          refine go_iconst C (pc' := 299) (z := 0) at_298 rfl rfl ?_
          refine go_iadd C (pc' := 300) at_299 rfl ?_
          refine go_iload C (pc' := 302) at_300 rfl rfl ?_
          rcases w3 with rfl | rfl
          · skip
            exact absurd hsum (by omega)
          · skip
            exact absurd hsum (by omega)
        · skip
          refine go_ifN C (pc' := 294) at_291 (by decide) rfl ?_
          refine go_iconst C (pc' := 295) (z := 1) at_294 rfl rfl ?_
          refine go_goto C (pc' := 299) at_295 (by decide) (by decide) ?_
          refine go_iadd C (pc' := 300) at_299 rfl ?_
          refine go_iload C (pc' := 302) at_300 rfl rfl ?_
          rcases w3 with rfl | rfl
          · skip
            exact absurd hsum (by omega)
          · skip
            refine go_ifN C (pc' := 305) at_302 (by decide) rfl ?_
            refine go_iconst C (pc' := 306) (z := 1) at_305 rfl rfl ?_
            refine go_goto C (pc' := 310) at_306 (by decide) (by decide) ?_
            refine go_iadd C (pc' := 311) at_310 rfl ?_
            refine go_istore C (pc' := 313) (Ls' := #[.val (.int sh), .val (.int en), .val (.int sp), .val (.ref ia), .val (.ref ib), .val (.ref kd), .val (.ref ie), .val (.int pr), .val (.ref c), .val (.int nn), .val (.int (Int32.ofNat 1)), .val (.int (Int32.ofNat 0)), .val (.int (Int32.ofNat 0)), .val (.int (Int32.ofNat 1)), .val (.int (Int32.ofNat 1)), .val (.ref t), .val (.int (2 : Int32)), .val (.int (2 : Int32)), .unset, .unset]) at_311 rfl rfl ?_
            exact J313
      · skip
        refine go_ifN C (pc' := 283) at_280 (by decide) rfl ?_
        refine go_iconst C (pc' := 284) (z := 1) at_283 rfl rfl ?_
        refine go_goto C (pc' := 288) at_284 (by decide) (by decide) ?_
        refine go_iadd C (pc' := 289) at_288 rfl ?_
        refine go_iload C (pc' := 291) at_289 rfl rfl ?_
        rcases w2 with rfl | rfl
        · skip
          refine go_ifY C (pc' := 298) at_291 (by decide) (by decide) (by decide) ?_
          refine go_iconst C (pc' := 299) (z := 0) at_298 rfl rfl ?_
          refine go_iadd C (pc' := 300) at_299 rfl ?_
          refine go_iload C (pc' := 302) at_300 rfl rfl ?_
          rcases w3 with rfl | rfl
          · skip
            exact absurd hsum (by omega)
          · skip
            refine go_ifN C (pc' := 305) at_302 (by decide) rfl ?_
            refine go_iconst C (pc' := 306) (z := 1) at_305 rfl rfl ?_
            refine go_goto C (pc' := 310) at_306 (by decide) (by decide) ?_
            refine go_iadd C (pc' := 311) at_310 rfl ?_
            refine go_istore C (pc' := 313) (Ls' := #[.val (.int sh), .val (.int en), .val (.int sp), .val (.ref ia), .val (.ref ib), .val (.ref kd), .val (.ref ie), .val (.int pr), .val (.ref c), .val (.int nn), .val (.int (Int32.ofNat 1)), .val (.int (Int32.ofNat 0)), .val (.int (Int32.ofNat 1)), .val (.int (Int32.ofNat 0)), .val (.int (Int32.ofNat 1)), .val (.ref t), .val (.int (2 : Int32)), .val (.int (2 : Int32)), .unset, .unset]) at_311 rfl rfl ?_
            exact J313
        · skip
          refine go_ifN C (pc' := 294) at_291 (by decide) rfl ?_
          refine go_iconst C (pc' := 295) (z := 1) at_294 rfl rfl ?_
          refine go_goto C (pc' := 299) at_295 (by decide) (by decide) ?_
          refine go_iadd C (pc' := 300) at_299 rfl ?_
          refine go_iload C (pc' := 302) at_300 rfl rfl ?_
          rcases w3 with rfl | rfl
          · skip
            refine go_ifY C (pc' := 309) at_302 (by decide) (by decide) (by decide) ?_
            refine go_iconst C (pc' := 310) (z := 0) at_309 rfl rfl ?_
            refine go_iadd C (pc' := 311) at_310 rfl ?_
            refine go_istore C (pc' := 313) (Ls' := #[.val (.int sh), .val (.int en), .val (.int sp), .val (.ref ia), .val (.ref ib), .val (.ref kd), .val (.ref ie), .val (.int pr), .val (.ref c), .val (.int nn), .val (.int (Int32.ofNat 1)), .val (.int (Int32.ofNat 0)), .val (.int (Int32.ofNat 1)), .val (.int (Int32.ofNat 1)), .val (.int (Int32.ofNat 0)), .val (.ref t), .val (.int (2 : Int32)), .val (.int (2 : Int32)), .unset, .unset]) at_311 rfl rfl ?_
            exact J313
          · skip
            exact absurd hsum (by omega)
    · skip
      refine go_ifN C (pc' := 273) at_270 (by decide) rfl ?_
      refine go_iconst C (pc' := 274) (z := 1) at_273 rfl rfl ?_
      refine go_goto C (pc' := 278) at_274 (by decide) (by decide) ?_
      refine go_iload C (pc' := 280) at_278 rfl rfl ?_
      rcases w1 with rfl | rfl
      · skip
        refine go_ifY C (pc' := 287) at_280 (by decide) (by decide) (by decide) ?_
        refine go_iconst C (pc' := 288) (z := 0) at_287 rfl rfl ?_
        refine go_iadd C (pc' := 289) at_288 rfl ?_
        refine go_iload C (pc' := 291) at_289 rfl rfl ?_
        rcases w2 with rfl | rfl
        · skip
          refine go_ifY C (pc' := 298) at_291 (by decide) (by decide) (by decide) ?_
          refine go_iconst C (pc' := 299) (z := 0) at_298 rfl rfl ?_
          refine go_iadd C (pc' := 300) at_299 rfl ?_
          refine go_iload C (pc' := 302) at_300 rfl rfl ?_
          rcases w3 with rfl | rfl
          · skip
            exact absurd hsum (by omega)
          · skip
            refine go_ifN C (pc' := 305) at_302 (by decide) rfl ?_
            refine go_iconst C (pc' := 306) (z := 1) at_305 rfl rfl ?_
            refine go_goto C (pc' := 310) at_306 (by decide) (by decide) ?_
            refine go_iadd C (pc' := 311) at_310 rfl ?_
            refine go_istore C (pc' := 313) (Ls' := #[.val (.int sh), .val (.int en), .val (.int sp), .val (.ref ia), .val (.ref ib), .val (.ref kd), .val (.ref ie), .val (.int pr), .val (.ref c), .val (.int nn), .val (.int (Int32.ofNat 1)), .val (.int (Int32.ofNat 1)), .val (.int (Int32.ofNat 0)), .val (.int (Int32.ofNat 0)), .val (.int (Int32.ofNat 1)), .val (.ref t), .val (.int (2 : Int32)), .val (.int (2 : Int32)), .unset, .unset]) at_311 rfl rfl ?_
            exact J313
        · skip
          refine go_ifN C (pc' := 294) at_291 (by decide) rfl ?_
          refine go_iconst C (pc' := 295) (z := 1) at_294 rfl rfl ?_
          refine go_goto C (pc' := 299) at_295 (by decide) (by decide) ?_
          refine go_iadd C (pc' := 300) at_299 rfl ?_
          refine go_iload C (pc' := 302) at_300 rfl rfl ?_
          rcases w3 with rfl | rfl
          · skip
            refine go_ifY C (pc' := 309) at_302 (by decide) (by decide) (by decide) ?_
            refine go_iconst C (pc' := 310) (z := 0) at_309 rfl rfl ?_
            refine go_iadd C (pc' := 311) at_310 rfl ?_
            refine go_istore C (pc' := 313) (Ls' := #[.val (.int sh), .val (.int en), .val (.int sp), .val (.ref ia), .val (.ref ib), .val (.ref kd), .val (.ref ie), .val (.int pr), .val (.ref c), .val (.int nn), .val (.int (Int32.ofNat 1)), .val (.int (Int32.ofNat 1)), .val (.int (Int32.ofNat 0)), .val (.int (Int32.ofNat 1)), .val (.int (Int32.ofNat 0)), .val (.ref t), .val (.int (2 : Int32)), .val (.int (2 : Int32)), .unset, .unset]) at_311 rfl rfl ?_
            exact J313
          · skip
            exact absurd hsum (by omega)
      · skip
        refine go_ifN C (pc' := 283) at_280 (by decide) rfl ?_
        refine go_iconst C (pc' := 284) (z := 1) at_283 rfl rfl ?_
        refine go_goto C (pc' := 288) at_284 (by decide) (by decide) ?_
        refine go_iadd C (pc' := 289) at_288 rfl ?_
        refine go_iload C (pc' := 291) at_289 rfl rfl ?_
        rcases w2 with rfl | rfl
        · skip
          refine go_ifY C (pc' := 298) at_291 (by decide) (by decide) (by decide) ?_
          refine go_iconst C (pc' := 299) (z := 0) at_298 rfl rfl ?_
          refine go_iadd C (pc' := 300) at_299 rfl ?_
          refine go_iload C (pc' := 302) at_300 rfl rfl ?_
          rcases w3 with rfl | rfl
          · skip
            refine go_ifY C (pc' := 309) at_302 (by decide) (by decide) (by decide) ?_
            refine go_iconst C (pc' := 310) (z := 0) at_309 rfl rfl ?_
            refine go_iadd C (pc' := 311) at_310 rfl ?_
            refine go_istore C (pc' := 313) (Ls' := #[.val (.int sh), .val (.int en), .val (.int sp), .val (.ref ia), .val (.ref ib), .val (.ref kd), .val (.ref ie), .val (.int pr), .val (.ref c), .val (.int nn), .val (.int (Int32.ofNat 1)), .val (.int (Int32.ofNat 1)), .val (.int (Int32.ofNat 1)), .val (.int (Int32.ofNat 0)), .val (.int (Int32.ofNat 0)), .val (.ref t), .val (.int (2 : Int32)), .val (.int (2 : Int32)), .unset, .unset]) at_311 rfl rfl ?_
            exact J313
          · skip
            exact absurd hsum (by omega)
        · skip
          exact absurd hsum (by omega)
theorem nextF_01 {la lb le : List Nat} {ls : Nat} : ∀ {q : Nat} {S : CTV} {r : Nat} {S' : CTV} {e : Nat}, nextF la lb le ls q S = some (r, S', e) → r = 0 ∨ r = 1
  | 0, S, r, S', e, h => by
    have h2 : some (0, S, 0) = some (r, S', e) := h
    exact Or.inl (Prod.mk.inj (Option.some.inj h2)).1.symm
  | p + 1, S, r, S', e, h => by
    unfold nextF at h
    cases e1 : S.2.1[p]? with
    | none => rw [e1] at h; cases h
    | some x =>
      rw [e1] at h; dsimp only at h
      by_cases c0 : x = 1
      · rw [if_pos c0] at h
        cases e2 : undoF S.1 with
        | none => rw [e2] at h; cases h
        | some u1 =>
          rw [e2] at h; dsimp only at h
          by_cases c1 : 0 < S.2.2.2
          · rw [if_pos c1] at h
            cases e3 : leaveF la lb ls u1 p with
            | none => rw [e3] at h; cases h
            | some t =>
              rw [e3] at h; dsimp only at h
              by_cases c2 : t.1 = 0
              · rw [if_pos c2] at h; exact nextF_01 h
              · rw [if_neg c2] at h
                cases e4 : takeF la lb le 10 (t.2, S.2.1.set p 2, S.2.2.1, S.2.2.2 - 1) (p + 1) with
                | none => rw [e4] at h; cases h
                | some w => rw [e4] at h; exact Or.inr (Prod.mk.inj (Option.some.inj h)).1.symm
          · rw [if_neg c1] at h; cases h
      · rw [if_neg c0] at h
        by_cases c1 : x < 100
        · rw [if_pos c1] at h; exact nextF_01 h
        · rw [if_neg c1] at h; cases h
set_option maxRecDepth 65536 in
set_option maxHeartbeats 4000000 in
theorem t164 (Z : State) (a0 : Array Value) (hw : ∀ d ∈ tables_1, d.before a0 Z = true) (E : Noise) (C : Cx E Z "com/example/joinweave/joinweave/graph/CoreTreesTakenPinLaw" "law" code 20 (some .boolean)) (c A B D P f pa sa ha CH TK : Nat) (ia ib kd ie : Nat) (sh en sp pr : Int32) (la lb le lp : List Nat) (k0 k1 k2 k3 : Fin 4) (n0 : Nat) (ge : n0 ≤ c) (hkd : kd < c) (n : Nat) (hn : n < 4) (r : Nat) (S : CTV) (d : Nat) (h : Heap) (h01 : r = 0 ∨ r = 1) (hr : runF la lb le 2 lp [k0.val, k1.val, k2.val, k3.val] (n - 2) r S d = true) (T : Ct Z h c A B D P f pa sa ha CH TK la lb le lp 2 S.1 S.2.1 S.2.2.1 S.2.2.2 d) (fk : An Z h kd .int [k0.val, k1.val, k2.val, k3.val]) : Go E room_1 n0 Q1 h 16 65 164 #[.val (.int sh), .val (.int en), .val (.int sp), .val (.ref ia), .val (.ref ib), .val (.ref kd), .val (.ref ie), .val (.int pr), .val (.ref c), .val (.int (Int32.ofNat n)), .val (.int (Int32.ofNat r)), .unset, .unset, .unset, .unset, .unset, .unset, .unset, .unset, .unset] [] := by
  obtain ⟨u, ch, tk, tc⟩ := S
  dsimp only at T
  rcases h01 with rfl | rfl
  · rw [run_dead] at hr
    refine go_iload C (pc' := 166) at_164 rfl rfl ?_
    refine go_ifY C (pc' := 182) at_166 (by decide) (by decide) (by decide) ?_
    exact t182 Z a0 hw E C c A B D P f pa sa ha CH TK ia ib kd ie sh en sp pr la lb le lp k0 k1 k2 k3 n0 ge hkd (Int32.ofNat n) 0 (u, ch, tk, tc) d h (Or.inl rfl) (by exact hr) T fk
  · skip
    refine go_iload C (pc' := 166) at_164 rfl rfl ?_
    refine go_ifN C (pc' := 169) at_166 (by decide) rfl ?_
    refine go_iload C (pc' := 171) at_169 rfl rfl ?_
    refine go_iconst C (pc' := 172) (z := 3) at_171 rfl rfl ?_
    by_cases c0 : n < 3
    · skip
      refine go_icY C (pc' := 182) at_172 ((rel_holds .lt _ _).mpr (by show (Int32.ofNat n).toInt < (3 : Int32).toInt; rw [nat_i (by omega)]; have q3 : (3 : Int32).toInt = 3 := rfl; omega)) (by decide) (by decide) ?_
      exact t182 Z a0 hw E C c A B D P f pa sa ha CH TK ia ib kd ie sh en sp pr la lb le lp k0 k1 k2 k3 n0 ge hkd (Int32.ofNat n) 1 (u, ch, tk, tc) d h (Or.inr rfl) (by rw [show n - 2 = 0 from by omega] at hr; exact hr) T fk
    · skip
      refine go_icN C (pc' := 175) at_172 (Bool.eq_false_iff.mpr fun q => by have q2 : (Int32.ofNat n).toInt < (3 : Int32).toInt := (rel_holds .lt _ _).mp q; rw [nat_i (by omega)] at q2; have q3 : (3 : Int32).toInt = 3 := rfl; omega) rfl ?_
      rw [show n - 2 = (n - 3) + 1 from by omega] at hr
      unfold runF at hr
      rw [if_neg (by decide)] at hr
      cases hn1 : nextF la lb le 2 d (u, ch, tk, tc) with
      | none => rw [hn1] at hr; cases hr
      | some t =>
        rw [hn1] at hr
        dsimp only at hr
        obtain ⟨r1, S1, d1⟩ := t
        dsimp only at hr
        have v01 := nextF_01 hn1
        refine go_aload C (pc' := 177) at_175 rfl rfl rfl ?_
        refine go_callV C (pc' := 180) (k' := 16) (n' := 65) (argsL := []) (rest := []) (own_w hw (i := 81) rfl) (own_w hw (i := 82) rfl) (own_w hw (i := 84) rfl) (own_w hw (i := 83) rfl) (own_w hw (i := 7) rfl) (own_w hw (i := 85) rfl) (T.1.1) (rmX Z a0 hw c A B D P f pa sa ha CH TK la lb le lp 2 u ch tk tc d r1 S1 d1 h n0 ge T hn1) at_177 rfl rfl (lenOf pd7 rfl) (by decide) (by decide) 0 rfl (by decide) rfl rfl (by decide) (by decide) rfl ?_
        rintro _ h1 ⟨rfl, K1, T1⟩
        have fk1 := Ai.keep fk K1 (T.nin hkd)
        show Go E room_1 n0 Q1 h1 16 65 180 #[.val (.int sh), .val (.int en), .val (.int sp), .val (.ref ia), .val (.ref ib), .val (.ref kd), .val (.ref ie), .val (.int pr), .val (.ref c), .val (.int (Int32.ofNat n)), .val (.int (Int32.ofNat 1)), .unset, .unset, .unset, .unset, .unset, .unset, .unset, .unset, .unset] [(.int (Int32.ofNat r1))]
        refine go_istore C (pc' := 182) (Ls' := #[.val (.int sh), .val (.int en), .val (.int sp), .val (.ref ia), .val (.ref ib), .val (.ref kd), .val (.ref ie), .val (.int pr), .val (.ref c), .val (.int (Int32.ofNat n)), .val (.int (Int32.ofNat r1)), .unset, .unset, .unset, .unset, .unset, .unset, .unset, .unset, .unset]) at_180 rfl rfl ?_
        exact t182 Z a0 hw E C c A B D P f pa sa ha CH TK ia ib kd ie sh en sp pr la lb le lp k0 k1 k2 k3 n0 ge hkd (Int32.ofNat n) r1 S1 d1 h1 v01 (by rw [show n - 3 = 0 from by omega] at hr; exact hr) T1 fk1
set_option maxRecDepth 65536 in
set_option maxHeartbeats 4000000 in
theorem t146 (Z : State) (a0 : Array Value) (hw : ∀ d ∈ tables_1, d.before a0 Z = true) (E : Noise) (C : Cx E Z "com/example/joinweave/joinweave/graph/CoreTreesTakenPinLaw" "law" code 20 (some .boolean)) (c A B D P f pa sa ha CH TK : Nat) (ia ib kd ie : Nat) (sh en sp pr : Int32) (la lb le lp : List Nat) (k0 k1 k2 k3 : Fin 4) (n0 : Nat) (ge : n0 ≤ c) (hkd : kd < c) (n : Nat) (hn : n < 4) (r : Nat) (S : CTV) (d : Nat) (h : Heap) (h01 : r = 0 ∨ r = 1) (hr : runF la lb le 2 lp [k0.val, k1.val, k2.val, k3.val] (n - 1) r S d = true) (T : Ct Z h c A B D P f pa sa ha CH TK la lb le lp 2 S.1 S.2.1 S.2.2.1 S.2.2.2 d) (fk : An Z h kd .int [k0.val, k1.val, k2.val, k3.val]) : Go E room_1 n0 Q1 h 16 65 146 #[.val (.int sh), .val (.int en), .val (.int sp), .val (.ref ia), .val (.ref ib), .val (.ref kd), .val (.ref ie), .val (.int pr), .val (.ref c), .val (.int (Int32.ofNat n)), .val (.int (Int32.ofNat r)), .unset, .unset, .unset, .unset, .unset, .unset, .unset, .unset, .unset] [] := by
  obtain ⟨u, ch, tk, tc⟩ := S
  dsimp only at T
  rcases h01 with rfl | rfl
  · rw [run_dead] at hr
    refine go_iload C (pc' := 148) at_146 rfl rfl ?_
    refine go_ifY C (pc' := 164) at_148 (by decide) (by decide) (by decide) ?_
    exact t164 Z a0 hw E C c A B D P f pa sa ha CH TK ia ib kd ie sh en sp pr la lb le lp k0 k1 k2 k3 n0 ge hkd n hn 0 (u, ch, tk, tc) d h (Or.inl rfl) (by rw [run_dead]; exact hr) T fk
  · skip
    refine go_iload C (pc' := 148) at_146 rfl rfl ?_
    refine go_ifN C (pc' := 151) at_148 (by decide) rfl ?_
    refine go_iload C (pc' := 153) at_151 rfl rfl ?_
    refine go_iconst C (pc' := 154) (z := 2) at_153 rfl rfl ?_
    by_cases c0 : n < 2
    · skip
      refine go_icY C (pc' := 164) at_154 ((rel_holds .lt _ _).mpr (by show (Int32.ofNat n).toInt < (2 : Int32).toInt; rw [nat_i (by omega)]; have q3 : (2 : Int32).toInt = 2 := rfl; omega)) (by decide) (by decide) ?_
      exact t164 Z a0 hw E C c A B D P f pa sa ha CH TK ia ib kd ie sh en sp pr la lb le lp k0 k1 k2 k3 n0 ge hkd n hn 1 (u, ch, tk, tc) d h (Or.inr rfl) (by rw [show n - 1 = 0 from by omega] at hr; rw [show n - 2 = 0 from by omega]; exact hr) T fk
    · skip
      refine go_icN C (pc' := 157) at_154 (Bool.eq_false_iff.mpr fun q => by have q2 : (Int32.ofNat n).toInt < (2 : Int32).toInt := (rel_holds .lt _ _).mp q; rw [nat_i (by omega)] at q2; have q3 : (2 : Int32).toInt = 2 := rfl; omega) rfl ?_
      rw [show n - 1 = (n - 2) + 1 from by omega] at hr
      unfold runF at hr
      rw [if_neg (by decide)] at hr
      cases hn1 : nextF la lb le 2 d (u, ch, tk, tc) with
      | none => rw [hn1] at hr; cases hr
      | some t =>
        rw [hn1] at hr
        dsimp only at hr
        obtain ⟨r1, S1, d1⟩ := t
        dsimp only at hr
        have v01 := nextF_01 hn1
        refine go_aload C (pc' := 159) at_157 rfl rfl rfl ?_
        refine go_callV C (pc' := 162) (k' := 16) (n' := 65) (argsL := []) (rest := []) (own_w hw (i := 81) rfl) (own_w hw (i := 82) rfl) (own_w hw (i := 84) rfl) (own_w hw (i := 83) rfl) (own_w hw (i := 7) rfl) (own_w hw (i := 85) rfl) (T.1.1) (rmX Z a0 hw c A B D P f pa sa ha CH TK la lb le lp 2 u ch tk tc d r1 S1 d1 h n0 ge T hn1) at_159 rfl rfl (lenOf pd7 rfl) (by decide) (by decide) 0 rfl (by decide) rfl rfl (by decide) (by decide) rfl ?_
        rintro _ h1 ⟨rfl, K1, T1⟩
        have fk1 := Ai.keep fk K1 (T.nin hkd)
        show Go E room_1 n0 Q1 h1 16 65 162 #[.val (.int sh), .val (.int en), .val (.int sp), .val (.ref ia), .val (.ref ib), .val (.ref kd), .val (.ref ie), .val (.int pr), .val (.ref c), .val (.int (Int32.ofNat n)), .val (.int (Int32.ofNat 1)), .unset, .unset, .unset, .unset, .unset, .unset, .unset, .unset, .unset] [(.int (Int32.ofNat r1))]
        refine go_istore C (pc' := 164) (Ls' := #[.val (.int sh), .val (.int en), .val (.int sp), .val (.ref ia), .val (.ref ib), .val (.ref kd), .val (.ref ie), .val (.int pr), .val (.ref c), .val (.int (Int32.ofNat n)), .val (.int (Int32.ofNat r1)), .unset, .unset, .unset, .unset, .unset, .unset, .unset, .unset, .unset]) at_162 rfl rfl ?_
        exact t164 Z a0 hw E C c A B D P f pa sa ha CH TK ia ib kd ie sh en sp pr la lb le lp k0 k1 k2 k3 n0 ge hkd n hn r1 S1 d1 h1 v01 hr T1 fk1
set_option maxRecDepth 65536 in
set_option maxHeartbeats 4000000 in
theorem t133 (Z : State) (a0 : Array Value) (hw : ∀ d ∈ tables_1, d.before a0 Z = true) (E : Noise) (C : Cx E Z "com/example/joinweave/joinweave/graph/CoreTreesTakenPinLaw" "law" code 20 (some .boolean)) (c A B D P f pa sa ha CH TK : Nat) (ia ib kd ie : Nat) (sh en sp pr : Int32) (la lb le lp : List Nat) (k0 k1 k2 k3 : Fin 4) (n0 : Nat) (ge : n0 ≤ c) (hkd : kd < c) (n : Nat) (hn : n < 4) (S : CTV) (d : Nat) (h : Heap) (hr : runF la lb le 2 lp [k0.val, k1.val, k2.val, k3.val] n 1 S d = true) (T : Ct Z h c A B D P f pa sa ha CH TK la lb le lp 2 S.1 S.2.1 S.2.2.1 S.2.2.2 d) (fk : An Z h kd .int [k0.val, k1.val, k2.val, k3.val]) : Go E room_1 n0 Q1 h 16 65 133 #[.val (.int sh), .val (.int en), .val (.int sp), .val (.ref ia), .val (.ref ib), .val (.ref kd), .val (.ref ie), .val (.int pr), .val (.ref c), .val (.int (Int32.ofNat n)), .val (.int (1 : Int32)), .unset, .unset, .unset, .unset, .unset, .unset, .unset, .unset, .unset] [] := by
  obtain ⟨u, ch, tk, tc⟩ := S
  dsimp only at T
  refine go_iload C (pc' := 135) at_133 rfl rfl ?_
  refine go_iconst C (pc' := 136) (z := 1) at_135 rfl rfl ?_
  by_cases c0 : n < 1
  · skip
    refine go_icY C (pc' := 146) at_136 ((rel_holds .lt _ _).mpr (by show (Int32.ofNat n).toInt < (1 : Int32).toInt; rw [nat_i (by omega)]; have q3 : (1 : Int32).toInt = 1 := rfl; omega)) (by decide) (by decide) ?_
    exact t146 Z a0 hw E C c A B D P f pa sa ha CH TK ia ib kd ie sh en sp pr la lb le lp k0 k1 k2 k3 n0 ge hkd n hn 1 (u, ch, tk, tc) d h (Or.inr rfl) (by rw [show n = 0 from by omega] at hr ⊢; exact hr) T fk
  · skip
    refine go_icN C (pc' := 139) at_136 (Bool.eq_false_iff.mpr fun q => by have q2 : (Int32.ofNat n).toInt < (1 : Int32).toInt := (rel_holds .lt _ _).mp q; rw [nat_i (by omega)] at q2; have q3 : (1 : Int32).toInt = 1 := rfl; omega) rfl ?_
    rw [show n = (n - 1) + 1 from by omega] at hr
    unfold runF at hr
    rw [if_neg (by decide)] at hr
    cases hn1 : nextF la lb le 2 d (u, ch, tk, tc) with
    | none => rw [hn1] at hr; cases hr
    | some t =>
      rw [hn1] at hr
      dsimp only at hr
      obtain ⟨r1, S1, d1⟩ := t
      dsimp only at hr
      have v01 := nextF_01 hn1
      refine go_aload C (pc' := 141) at_139 rfl rfl rfl ?_
      refine go_callV C (pc' := 144) (k' := 16) (n' := 65) (argsL := []) (rest := []) (own_w hw (i := 81) rfl) (own_w hw (i := 82) rfl) (own_w hw (i := 84) rfl) (own_w hw (i := 83) rfl) (own_w hw (i := 7) rfl) (own_w hw (i := 85) rfl) (T.1.1) (rmX Z a0 hw c A B D P f pa sa ha CH TK la lb le lp 2 u ch tk tc d r1 S1 d1 h n0 ge T hn1) at_141 rfl rfl (lenOf pd7 rfl) (by decide) (by decide) 0 rfl (by decide) rfl rfl (by decide) (by decide) rfl ?_
      rintro _ h1 ⟨rfl, K1, T1⟩
      have fk1 := Ai.keep fk K1 (T.nin hkd)
      show Go E room_1 n0 Q1 h1 16 65 144 #[.val (.int sh), .val (.int en), .val (.int sp), .val (.ref ia), .val (.ref ib), .val (.ref kd), .val (.ref ie), .val (.int pr), .val (.ref c), .val (.int (Int32.ofNat n)), .val (.int (1 : Int32)), .unset, .unset, .unset, .unset, .unset, .unset, .unset, .unset, .unset] [(.int (Int32.ofNat r1))]
      refine go_istore C (pc' := 146) (Ls' := #[.val (.int sh), .val (.int en), .val (.int sp), .val (.ref ia), .val (.ref ib), .val (.ref kd), .val (.ref ie), .val (.int pr), .val (.ref c), .val (.int (Int32.ofNat n)), .val (.int (Int32.ofNat r1)), .unset, .unset, .unset, .unset, .unset, .unset, .unset, .unset, .unset]) at_144 rfl rfl ?_
      exact t146 Z a0 hw E C c A B D P f pa sa ha CH TK ia ib kd ie sh en sp pr la lb le lp k0 k1 k2 k3 n0 ge hkd n hn r1 S1 d1 h1 v01 hr T1 fk1
theorem law_0 : ∀ (j k l : Fin 9), checkF 0 j.val k.val l.val = true := by decide +kernel
theorem law_1 : ∀ (j k l : Fin 9), checkF 1 j.val k.val l.val = true := by decide +kernel
theorem law_2 : ∀ (j k l : Fin 9), checkF 2 j.val k.val l.val = true := by decide +kernel
theorem law_3 : ∀ (j k l : Fin 9), checkF 3 j.val k.val l.val = true := by decide +kernel
theorem law_4 : ∀ (j k l : Fin 9), checkF 4 j.val k.val l.val = true := by decide +kernel
theorem law_5 : ∀ (j k l : Fin 9), checkF 5 j.val k.val l.val = true := by decide +kernel
theorem law_6 : ∀ (j k l : Fin 9), checkF 6 j.val k.val l.val = true := by decide +kernel
theorem law_7 : ∀ (j k l : Fin 9), checkF 7 j.val k.val l.val = true := by decide +kernel
theorem law_8 : ∀ (j k l : Fin 9), checkF 8 j.val k.val l.val = true := by decide +kernel
theorem law_all : ∀ (i j k l : Fin 9), checkF i.val j.val k.val l.val = true
  | ⟨0, _⟩, j, k, l => law_0 j k l
  | ⟨1, _⟩, j, k, l => law_1 j k l
  | ⟨2, _⟩, j, k, l => law_2 j k l
  | ⟨3, _⟩, j, k, l => law_3 j k l
  | ⟨4, _⟩, j, k, l => law_4 j k l
  | ⟨5, _⟩, j, k, l => law_5 j k l
  | ⟨6, _⟩, j, k, l => law_6 j k l
  | ⟨7, _⟩, j, k, l => law_7 j k l
  | ⟨8, _⟩, j, k, l => law_8 j k l
theorem ed_of : ∀ (k w : Fin 4) (s : Fin 2), ∃ e : Fin 9, edT e.val = ((uvF k.val w.val s.val).1, (uvF k.val w.val s.val).2, k.val) := by decide +kernel
theorem conn_of : ∀ k0 k1 k2 k3 : Fin 4, ¬ ((((retF k0.val ||| retF k1.val) ||| retF k2.val) ||| retF k3.val)).toInt = (0 : Int32).toInt → ¬ ((((retF k0.val ||| retF k1.val) ||| retF k2.val) ||| retF k3.val) &&& ((((retF k0.val ||| retF k1.val) ||| retF k2.val) ||| retF k3.val) - (1 : Int32))).toInt = (0 : Int32).toInt → connN k0.val k1.val k2.val k3.val = true := by decide +kernel
theorem law_in (k0 k1 k2 k3 w0 w1 w2 w3 : Fin 4) (s0 s1 s2 s3 : Fin 2) (hc : connN k0.val k1.val k2.val k3.val = true) :
    lawF [(uvF k0.val w0.val s0.val).1, (uvF k1.val w1.val s1.val).1, (uvF k2.val w2.val s2.val).1, (uvF k3.val w3.val s3.val).1] [(uvF k0.val w0.val s0.val).2, (uvF k1.val w1.val s1.val).2, (uvF k2.val w2.val s2.val).2, (uvF k3.val w3.val s3.val).2] [k0.val, k1.val, k2.val, k3.val] = true := by
  obtain ⟨i0, q0⟩ := ed_of k0 w0 s0
  obtain ⟨i1, q1⟩ := ed_of k1 w1 s1
  obtain ⟨i2, q2⟩ := ed_of k2 w2 s2
  obtain ⟨i3, q3⟩ := ed_of k3 w3 s3
  have h := law_all i0 i1 i2 i3
  unfold checkF at h
  rw [q0, q1, q2, q3] at h
  dsimp only at h
  rw [hc] at h
  exact h
theorem law_of {la lb lk : List Nat} (h : lawF la lb lk = true) : ∃ (p : PLC) (u0 um u9 : UFS) (yl : List Nat) (S0 : CTV) (d0 : Nat), unisF la lb 10 0 initF [0, 0, 0, 0] = some (u0, yl) ∧ undoF u0 = some um ∧ undoF um = some u9 ∧ placeF la lb [10, 11, 12, 13] yl 10 0 0 2 ([0, 0, 0, 0], [0, 0, 0, 0], [0, 0, 0, 0], [0, 0, 0, 0]) = some p ∧ takeF p.1 p.2.1 p.2.2.1 10 (u9, [0, 0, 0, 0], [0, 0], 0) 0 = some (S0, d0) ∧ allF p.1 p.2.1 p.2.2.1 2 p.2.2.2 lk 3 1 S0 d0 = true := by
  unfold lawF ctorF at h
  cases e1 : unisF la lb 10 0 initF [0, 0, 0, 0] with
  | none => rw [e1] at h; cases h
  | some t =>
    rw [e1] at h; dsimp only at h
    obtain ⟨u0, yl⟩ := t
    dsimp only at h
    unfold undoN at h
    cases e2 : undoF u0 with
    | none => rw [e2] at h; cases h
    | some um =>
      rw [e2] at h; dsimp only at h
      unfold undoN at h
      cases e3 : undoF um with
      | none => rw [e3] at h; cases h
      | some u9 =>
        rw [e3] at h; dsimp only at h
        unfold undoN at h
        dsimp only at h
        cases e4 : placeF la lb [10, 11, 12, 13] yl 10 0 0 2 ([0, 0, 0, 0], [0, 0, 0, 0], [0, 0, 0, 0], [0, 0, 0, 0]) with
        | none => rw [e4] at h; cases h
        | some p =>
          rw [e4] at h; dsimp only at h
          cases e5 : takeF p.1 p.2.1 p.2.2.1 10 (u9, [0, 0, 0, 0], [0, 0], 0) 0 with
          | none => rw [e5] at h; cases h
          | some s =>
            rw [e5] at h; dsimp only at h
            obtain ⟨S0, d0⟩ := s
            exact ⟨p, u0, um, u9, yl, S0, d0, rfl, e2, e3, e4, e5, h⟩
theorem own_m3 (z : Int32) : ∃ k : Fin 4, z &&& (3 : Int32) = Int32.ofNat k.val := by
  have m1 := c_mask z 3 2 (by decide) (by decide)
  exact ⟨⟨(z &&& (3 : Int32)).toInt.toNat, by omega⟩, Int32.toInt_inj.mp (by rw [nat_i (by show (z &&& (3 : Int32)).toInt.toNat < _; omega)]; show _ = (((z &&& (3 : Int32)).toInt.toNat : Nat) : Int); omega)⟩
theorem own_m1 (z : Int32) : ∃ k : Fin 2, z &&& (1 : Int32) = Int32.ofNat k.val := by
  have m1 := c_mask z 1 1 (by decide) (by decide)
  exact ⟨⟨(z &&& (1 : Int32)).toInt.toNat, by omega⟩, Int32.toInt_inj.mp (by rw [nat_i (by show (z &&& (1 : Int32)).toInt.toNat < _; omega)]; show _ = (((z &&& (1 : Int32)).toInt.toNat : Nat) : Int); omega)⟩
theorem f4 (k : Fin 4) : k.val = 0 ∨ k.val = 1 ∨ k.val = 2 ∨ k.val = 3 := by have := k.isLt; omega
theorem f2 (k : Fin 2) : k.val = 0 ∨ k.val = 1 := by have := k.isLt; omega
set_option maxRecDepth 65536 in
set_option maxHeartbeats 4000000 in
theorem rm0 (Z : State) (a0 : Array Value) (hw : ∀ d ∈ tables_1, d.before a0 Z = true) (sh en sp : Int32) (h0 : Heap) (n0 : Nat) (Z0 : n0 ≤ h0.size) : Met Z Jvm.Pilot.@@N@@.x code maxLocals ret room_1 #[.int sh, .int en, .int sp] h0 n0 Q1 := by
  refine met_of (Ls := #[.val (.int sh), .val (.int en), .val (.int sp), .unset, .unset, .unset, .unset, .unset, .unset, .unset, .unset, .unset, .unset, .unset, .unset, .unset, .unset, .unset, .unset, .unset]) (plainFor_of_name pn0) (fun m => by first | (simp [entryFrame, mkF, argsToLocals, Value.category, maxLocals]; done) | rfl) ?_
  intro E (C : Cx E Z "com/example/joinweave/joinweave/graph/CoreTreesTakenPinLaw" "law" code 20 (some .boolean))
  refine go_iconst C (pc' := 1) (z := 4) at_0 rfl rfl ?_
  refine go_nnew C (aty := .int) (z := 4) (pc' := 3) (k' := 1) (n' := 4) (own_w hw (i := 0) rfl) rfl (by decide) at_1 rfl rfl (by decide) (by decide) rfl ?_
  intro hA1 xA1 fa
  obtain ⟨ia, eia⟩ : ∃ q, q = h0.size := ⟨_, rfl⟩
  rw [← eia] at fa ⊢
  have zA1 := xA1.1
  have tA1 := Ai.lt fa
  refine go_astoreN C (pc' := 4) (Ls' := #[.val (.int sh), .val (.int en), .val (.int sp), .val (.ref ia), .unset, .unset, .unset, .unset, .unset, .unset, .unset, .unset, .unset, .unset, .unset, .unset, .unset, .unset, .unset, .unset]) at_3 rfl rfl rfl ?_
  refine go_iconst C (pc' := 5) (z := 4) at_4 rfl rfl ?_
  refine go_nnew C (aty := .int) (z := 4) (pc' := 7) (k' := 2) (n' := 8) (own_w hw (i := 0) rfl) rfl (by decide) at_5 rfl rfl (by decide) (by decide) rfl ?_
  intro hA2 xA2 fb
  obtain ⟨ib, eib⟩ : ∃ q, q = hA1.size := ⟨_, rfl⟩
  rw [← eib] at fb ⊢
  have zA2 := xA2.1
  have tA2 := Ai.lt fb
  replace fa := Ai.ext fa xA2
  refine go_astore C (pc' := 9) (Ls' := #[.val (.int sh), .val (.int en), .val (.int sp), .val (.ref ia), .val (.ref ib), .unset, .unset, .unset, .unset, .unset, .unset, .unset, .unset, .unset, .unset, .unset, .unset, .unset, .unset, .unset]) at_7 rfl rfl rfl ?_
  refine go_iconst C (pc' := 10) (z := 4) at_9 rfl rfl ?_
  refine go_nnew C (aty := .int) (z := 4) (pc' := 12) (k' := 3) (n' := 12) (own_w hw (i := 0) rfl) rfl (by decide) at_10 rfl rfl (by decide) (by decide) rfl ?_
  intro hA3 xA3 fk
  obtain ⟨kd, ekd⟩ : ∃ q, q = hA2.size := ⟨_, rfl⟩
  rw [← ekd] at fk ⊢
  have zA3 := xA3.1
  have tA3 := Ai.lt fk
  replace fa := Ai.ext fa xA3
  replace fb := Ai.ext fb xA3
  refine go_astore C (pc' := 14) (Ls' := #[.val (.int sh), .val (.int en), .val (.int sp), .val (.ref ia), .val (.ref ib), .val (.ref kd), .unset, .unset, .unset, .unset, .unset, .unset, .unset, .unset, .unset, .unset, .unset, .unset, .unset, .unset]) at_12 rfl rfl rfl ?_
  refine go_iconst C (pc' := 15) (z := 4) at_14 rfl rfl ?_
  refine go_nnew C (aty := .int) (z := 4) (pc' := 17) (k' := 4) (n' := 16) (own_w hw (i := 0) rfl) rfl (by decide) at_15 rfl rfl (by decide) (by decide) rfl ?_
  intro hA4 xA4 fe
  obtain ⟨ie, eie⟩ : ∃ q, q = hA3.size := ⟨_, rfl⟩
  rw [← eie] at fe ⊢
  have zA4 := xA4.1
  have tA4 := Ai.lt fe
  replace fa := Ai.ext fa xA4
  replace fb := Ai.ext fb xA4
  replace fk := Ai.ext fk xA4
  refine go_dup C (pc' := 18) at_17 rfl rfl ?_
  refine go_iconst C (pc' := 19) (z := 0) at_18 rfl rfl ?_
  refine go_bipush C (pc' := 21) (z := 10) at_19 rfl rfl ?_
  refine go_nstore (i := 0) (v := 10) C (pc' := 22) fe (by decide) (by omega) at_21 rfl ?_
  intro hE1 WE1
  have zE1 := WE1.size
  replace fe : An Z hE1 ie .int [10, 0, 0, 0] := An.setW fe WE1
  replace fa := Ai.other fa WE1 (by omega)
  replace fb := Ai.other fb WE1 (by omega)
  replace fk := Ai.other fk WE1 (by omega)
  refine go_dup C (pc' := 23) at_22 rfl rfl ?_
  refine go_iconst C (pc' := 24) (z := 1) at_23 rfl rfl ?_
  refine go_bipush C (pc' := 26) (z := 11) at_24 rfl rfl ?_
  refine go_nstore (i := 1) (v := 11) C (pc' := 27) fe (by decide) (by omega) at_26 rfl ?_
  intro hE2 WE2
  have zE2 := WE2.size
  replace fe : An Z hE2 ie .int [10, 11, 0, 0] := An.setW fe WE2
  replace fa := Ai.other fa WE2 (by omega)
  replace fb := Ai.other fb WE2 (by omega)
  replace fk := Ai.other fk WE2 (by omega)
  refine go_dup C (pc' := 28) at_27 rfl rfl ?_
  refine go_iconst C (pc' := 29) (z := 2) at_28 rfl rfl ?_
  refine go_bipush C (pc' := 31) (z := 12) at_29 rfl rfl ?_
  refine go_nstore (i := 2) (v := 12) C (pc' := 32) fe (by decide) (by omega) at_31 rfl ?_
  intro hE3 WE3
  have zE3 := WE3.size
  replace fe : An Z hE3 ie .int [10, 11, 12, 0] := An.setW fe WE3
  replace fa := Ai.other fa WE3 (by omega)
  replace fb := Ai.other fb WE3 (by omega)
  replace fk := Ai.other fk WE3 (by omega)
  refine go_dup C (pc' := 33) at_32 rfl rfl ?_
  refine go_iconst C (pc' := 34) (z := 3) at_33 rfl rfl ?_
  refine go_bipush C (pc' := 36) (z := 13) at_34 rfl rfl ?_
  refine go_nstore (i := 3) (v := 13) C (pc' := 37) fe (by decide) (by omega) at_36 rfl ?_
  intro hE4 WE4
  have zE4 := WE4.size
  replace fe : An Z hE4 ie .int [10, 11, 12, 13] := An.setW fe WE4
  replace fa := Ai.other fa WE4 (by omega)
  replace fb := Ai.other fb WE4 (by omega)
  replace fk := Ai.other fk WE4 (by omega)
  refine go_astore C (pc' := 39) (Ls' := #[.val (.int sh), .val (.int en), .val (.int sp), .val (.ref ia), .val (.ref ib), .val (.ref kd), .val (.ref ie), .unset, .unset, .unset, .unset, .unset, .unset, .unset, .unset, .unset, .unset, .unset, .unset, .unset]) at_37 rfl rfl rfl ?_
  refine go_aloadN C (pc' := 40) at_39 rfl rfl rfl ?_
  refine go_aload C (pc' := 42) at_40 rfl rfl rfl ?_
  refine go_aload C (pc' := 44) at_42 rfl rfl rfl ?_
  refine go_iconst C (pc' := 45) (z := 0) at_44 rfl rfl ?_
  refine go_iloadN C (pc' := 46) at_45 rfl rfl ?_
  refine go_iloadN C (pc' := 47) at_46 rfl rfl ?_
  obtain ⟨k0, ek0⟩ := own_m3 (XT.ushr sh ((2 : Int32) * Int32.ofNat 0))
  obtain ⟨w0, ew0⟩ := own_m3 (XT.ushr en ((2 : Int32) * Int32.ofNat 0))
  obtain ⟨s0, es0⟩ := own_m1 (XT.ushr en ((8 : Int32) + Int32.ofNat 0))
  refine go_callS C (pc' := 50) (k' := 4) (n' := 16) (argsL := [(.ref ia), (.ref ib), (.ref kd), (.int (0 : Int32)), (.int sh), (.int en)]) (rest := []) (own_w hw (i := 1) rfl) (own_w hw (i := 2) rfl) (own_w hw (i := 3) rfl) (own_w hw (i := 4) rfl) (rmFl Z ia ib kd 0 k0.val w0.val s0.val sh en [0, 0, 0, 0] [0, 0, 0, 0] [0, 0, 0, 0] hE4 n0 (by omega) (by omega) (by omega) (by show 0 < 4; decide) (by show 0 < 4; decide) (by show 0 < 4; decide) (f4 k0) w0.isLt (f2 s0) ek0 ew0 es0 fa fb fk) at_47 rfl rfl (lenOf pd0 rfl) (by decide) (by decide) 0 rfl (by decide) rfl rfl (by decide) (by decide) rfl ?_
  rintro _ hF0 ⟨rfl, KF0, fa_, fb_, fk_⟩
  replace fa : An Z hF0 ia .int [(uvF k0.val w0.val s0.val).1, 0, 0, 0] := fa_
  replace fb : An Z hF0 ib .int [(uvF k0.val w0.val s0.val).2, 0, 0, 0] := fb_
  replace fk : An Z hF0 kd .int [k0.val, 0, 0, 0] := fk_
  replace fe := Ai.keep fe KF0 (nnS (by omega) (nnS (by omega) (nnS (by omega) nin0)))
  have zF0 := KF0.1
  show Go E room_1 n0 Q1 hF0 4 16 50 #[.val (.int sh), .val (.int en), .val (.int sp), .val (.ref ia), .val (.ref ib), .val (.ref kd), .val (.ref ie), .unset, .unset, .unset, .unset, .unset, .unset, .unset, .unset, .unset, .unset, .unset, .unset, .unset] [(.int (retF k0.val))]
  refine go_aloadN C (pc' := 51) at_50 rfl rfl rfl ?_
  refine go_aload C (pc' := 53) at_51 rfl rfl rfl ?_
  refine go_aload C (pc' := 55) at_53 rfl rfl rfl ?_
  refine go_iconst C (pc' := 56) (z := 1) at_55 rfl rfl ?_
  refine go_iloadN C (pc' := 57) at_56 rfl rfl ?_
  refine go_iloadN C (pc' := 58) at_57 rfl rfl ?_
  obtain ⟨k1, ek1⟩ := own_m3 (XT.ushr sh ((2 : Int32) * Int32.ofNat 1))
  obtain ⟨w1, ew1⟩ := own_m3 (XT.ushr en ((2 : Int32) * Int32.ofNat 1))
  obtain ⟨s1, es1⟩ := own_m1 (XT.ushr en ((8 : Int32) + Int32.ofNat 1))
  refine go_callS C (pc' := 61) (k' := 4) (n' := 16) (argsL := [(.ref ia), (.ref ib), (.ref kd), (.int (1 : Int32)), (.int sh), (.int en)]) (rest := [(.int (retF k0.val))]) (own_w hw (i := 1) rfl) (own_w hw (i := 2) rfl) (own_w hw (i := 3) rfl) (own_w hw (i := 4) rfl) (rmFl Z ia ib kd 1 k1.val w1.val s1.val sh en [(uvF k0.val w0.val s0.val).1, 0, 0, 0] [(uvF k0.val w0.val s0.val).2, 0, 0, 0] [k0.val, 0, 0, 0] hF0 n0 (by omega) (by omega) (by omega) (by show 1 < 4; decide) (by show 1 < 4; decide) (by show 1 < 4; decide) (f4 k1) w1.isLt (f2 s1) ek1 ew1 es1 fa fb fk) at_58 rfl rfl (lenOf pd0 rfl) (by decide) (by decide) 1 rfl (by decide) rfl rfl (by decide) (by decide) rfl ?_
  rintro _ hF1 ⟨rfl, KF1, fa_, fb_, fk_⟩
  replace fa : An Z hF1 ia .int [(uvF k0.val w0.val s0.val).1, (uvF k1.val w1.val s1.val).1, 0, 0] := fa_
  replace fb : An Z hF1 ib .int [(uvF k0.val w0.val s0.val).2, (uvF k1.val w1.val s1.val).2, 0, 0] := fb_
  replace fk : An Z hF1 kd .int [k0.val, k1.val, 0, 0] := fk_
  replace fe := Ai.keep fe KF1 (nnS (by omega) (nnS (by omega) (nnS (by omega) nin0)))
  have zF1 := KF1.1
  show Go E room_1 n0 Q1 hF1 4 16 61 #[.val (.int sh), .val (.int en), .val (.int sp), .val (.ref ia), .val (.ref ib), .val (.ref kd), .val (.ref ie), .unset, .unset, .unset, .unset, .unset, .unset, .unset, .unset, .unset, .unset, .unset, .unset, .unset] [(.int (retF k1.val)), (.int (retF k0.val))]
  refine go_ior C (pc' := 62) at_61 rfl ?_
  refine go_aloadN C (pc' := 63) at_62 rfl rfl rfl ?_
  refine go_aload C (pc' := 65) at_63 rfl rfl rfl ?_
  refine go_aload C (pc' := 67) at_65 rfl rfl rfl ?_
  refine go_iconst C (pc' := 68) (z := 2) at_67 rfl rfl ?_
  refine go_iloadN C (pc' := 69) at_68 rfl rfl ?_
  refine go_iloadN C (pc' := 70) at_69 rfl rfl ?_
  obtain ⟨k2, ek2⟩ := own_m3 (XT.ushr sh ((2 : Int32) * Int32.ofNat 2))
  obtain ⟨w2, ew2⟩ := own_m3 (XT.ushr en ((2 : Int32) * Int32.ofNat 2))
  obtain ⟨s2, es2⟩ := own_m1 (XT.ushr en ((8 : Int32) + Int32.ofNat 2))
  refine go_callS C (pc' := 73) (k' := 4) (n' := 16) (argsL := [(.ref ia), (.ref ib), (.ref kd), (.int (2 : Int32)), (.int sh), (.int en)]) (rest := [(.int ((retF k0.val) ||| (retF k1.val)))]) (own_w hw (i := 1) rfl) (own_w hw (i := 2) rfl) (own_w hw (i := 3) rfl) (own_w hw (i := 4) rfl) (rmFl Z ia ib kd 2 k2.val w2.val s2.val sh en [(uvF k0.val w0.val s0.val).1, (uvF k1.val w1.val s1.val).1, 0, 0] [(uvF k0.val w0.val s0.val).2, (uvF k1.val w1.val s1.val).2, 0, 0] [k0.val, k1.val, 0, 0] hF1 n0 (by omega) (by omega) (by omega) (by show 2 < 4; decide) (by show 2 < 4; decide) (by show 2 < 4; decide) (f4 k2) w2.isLt (f2 s2) ek2 ew2 es2 fa fb fk) at_70 rfl rfl (lenOf pd0 rfl) (by decide) (by decide) 1 rfl (by decide) rfl rfl (by decide) (by decide) rfl ?_
  rintro _ hF2 ⟨rfl, KF2, fa_, fb_, fk_⟩
  replace fa : An Z hF2 ia .int [(uvF k0.val w0.val s0.val).1, (uvF k1.val w1.val s1.val).1, (uvF k2.val w2.val s2.val).1, 0] := fa_
  replace fb : An Z hF2 ib .int [(uvF k0.val w0.val s0.val).2, (uvF k1.val w1.val s1.val).2, (uvF k2.val w2.val s2.val).2, 0] := fb_
  replace fk : An Z hF2 kd .int [k0.val, k1.val, k2.val, 0] := fk_
  replace fe := Ai.keep fe KF2 (nnS (by omega) (nnS (by omega) (nnS (by omega) nin0)))
  have zF2 := KF2.1
  show Go E room_1 n0 Q1 hF2 4 16 73 #[.val (.int sh), .val (.int en), .val (.int sp), .val (.ref ia), .val (.ref ib), .val (.ref kd), .val (.ref ie), .unset, .unset, .unset, .unset, .unset, .unset, .unset, .unset, .unset, .unset, .unset, .unset, .unset] [(.int (retF k2.val)), (.int ((retF k0.val) ||| (retF k1.val)))]
  refine go_ior C (pc' := 74) at_73 rfl ?_
  refine go_aloadN C (pc' := 75) at_74 rfl rfl rfl ?_
  refine go_aload C (pc' := 77) at_75 rfl rfl rfl ?_
  refine go_aload C (pc' := 79) at_77 rfl rfl rfl ?_
  refine go_iconst C (pc' := 80) (z := 3) at_79 rfl rfl ?_
  refine go_iloadN C (pc' := 81) at_80 rfl rfl ?_
  refine go_iloadN C (pc' := 82) at_81 rfl rfl ?_
  obtain ⟨k3, ek3⟩ := own_m3 (XT.ushr sh ((2 : Int32) * Int32.ofNat 3))
  obtain ⟨w3, ew3⟩ := own_m3 (XT.ushr en ((2 : Int32) * Int32.ofNat 3))
  obtain ⟨s3, es3⟩ := own_m1 (XT.ushr en ((8 : Int32) + Int32.ofNat 3))
  refine go_callS C (pc' := 85) (k' := 4) (n' := 16) (argsL := [(.ref ia), (.ref ib), (.ref kd), (.int (3 : Int32)), (.int sh), (.int en)]) (rest := [(.int (((retF k0.val) ||| (retF k1.val)) ||| (retF k2.val)))]) (own_w hw (i := 1) rfl) (own_w hw (i := 2) rfl) (own_w hw (i := 3) rfl) (own_w hw (i := 4) rfl) (rmFl Z ia ib kd 3 k3.val w3.val s3.val sh en [(uvF k0.val w0.val s0.val).1, (uvF k1.val w1.val s1.val).1, (uvF k2.val w2.val s2.val).1, 0] [(uvF k0.val w0.val s0.val).2, (uvF k1.val w1.val s1.val).2, (uvF k2.val w2.val s2.val).2, 0] [k0.val, k1.val, k2.val, 0] hF2 n0 (by omega) (by omega) (by omega) (by show 3 < 4; decide) (by show 3 < 4; decide) (by show 3 < 4; decide) (f4 k3) w3.isLt (f2 s3) ek3 ew3 es3 fa fb fk) at_82 rfl rfl (lenOf pd0 rfl) (by decide) (by decide) 1 rfl (by decide) rfl rfl (by decide) (by decide) rfl ?_
  rintro _ hF3 ⟨rfl, KF3, fa_, fb_, fk_⟩
  replace fa : An Z hF3 ia .int [(uvF k0.val w0.val s0.val).1, (uvF k1.val w1.val s1.val).1, (uvF k2.val w2.val s2.val).1, (uvF k3.val w3.val s3.val).1] := fa_
  replace fb : An Z hF3 ib .int [(uvF k0.val w0.val s0.val).2, (uvF k1.val w1.val s1.val).2, (uvF k2.val w2.val s2.val).2, (uvF k3.val w3.val s3.val).2] := fb_
  replace fk : An Z hF3 kd .int [k0.val, k1.val, k2.val, k3.val] := fk_
  replace fe := Ai.keep fe KF3 (nnS (by omega) (nnS (by omega) (nnS (by omega) nin0)))
  have zF3 := KF3.1
  show Go E room_1 n0 Q1 hF3 4 16 85 #[.val (.int sh), .val (.int en), .val (.int sp), .val (.ref ia), .val (.ref ib), .val (.ref kd), .val (.ref ie), .unset, .unset, .unset, .unset, .unset, .unset, .unset, .unset, .unset, .unset, .unset, .unset, .unset] [(.int (retF k3.val)), (.int (((retF k0.val) ||| (retF k1.val)) ||| (retF k2.val)))]
  refine go_ior C (pc' := 86) at_85 rfl ?_
  refine go_istore C (pc' := 88) (Ls' := #[.val (.int sh), .val (.int en), .val (.int sp), .val (.ref ia), .val (.ref ib), .val (.ref kd), .val (.ref ie), .val (.int ((((retF k0.val) ||| (retF k1.val)) ||| (retF k2.val)) ||| (retF k3.val))), .unset, .unset, .unset, .unset, .unset, .unset, .unset, .unset, .unset, .unset, .unset, .unset]) at_86 rfl rfl ?_
  refine go_iload C (pc' := 90) at_88 rfl rfl ?_
  refine go_if C (pcY := 103) (pcN := 93) at_90 (by decide) (by decide) rfl ?_ ?_
  · intro q1
    refine go_iconst C (pc' := 104) (z := 1) at_103 rfl rfl ?_
    refine go_retZ C at_104 (by decide) (by decide) (by decide) ?_
    exact rfl
  · intro q1
    refine go_iload C (pc' := 95) at_93 rfl rfl ?_
    refine go_iload C (pc' := 97) at_95 rfl rfl ?_
    refine go_iconst C (pc' := 98) (z := 1) at_97 rfl rfl ?_
    refine go_isub C (pc' := 99) at_98 rfl ?_
    refine go_iand C (pc' := 100) at_99 rfl ?_
    refine go_if C (pcY := 105) (pcN := 103) at_100 (by decide) (by decide) rfl ?_ ?_
    · intro q2
      have hc := conn_of k0 k1 k2 k3 q1 q2
      obtain ⟨p, u0, um, u9, yl, S0, d0, hun, hu1, hu2, hp, htk, hall⟩ := law_of (law_in k0 k1 k2 k3 w0 w1 w2 w3 s0 s1 s2 s3 hc)
      refine go_newO C (pc' := 108) (k' := 5) (n' := 27) (own_w hw (i := 5) rfl) (own_w hw (i := 6) rfl) (own_w hw (i := 7) rfl) at_105 rfl rfl (by decide) (by decide) rfl ?_
      intro hnc xc Ac Dc
      obtain ⟨ac, eac⟩ : ∃ q, q = hF3.size := ⟨_, rfl⟩
      rw [← eac] at Ac Dc ⊢
      have znc := xc.1
      have gc : n0 ≤ ac := by omega
      have lfa := Ai.lt fa
      have lfb := Ai.lt fb
      have lfk := Ai.lt fk
      have lfe := Ai.lt fe
      replace fa := Ai.ext fa xc
      replace fb := Ai.ext fb xc
      replace fk := Ai.ext fk xc
      replace fe := Ai.ext fe xc
      refine go_dup C (pc' := 109) at_108 rfl rfl ?_
      refine go_iconst C (pc' := 110) (z := 3) at_109 rfl rfl ?_
      refine go_aloadN C (pc' := 111) at_110 rfl rfl rfl ?_
      refine go_aload C (pc' := 113) at_111 rfl rfl rfl ?_
      refine go_aload C (pc' := 115) at_113 rfl rfl rfl ?_
      refine go_callC C (pc' := 118) (k' := 16) (n' := 65) (argsL := [(.int (3 : Int32)), (.ref ia), (.ref ib), (.ref ie)]) (rest := [(.ref ac)]) (own_w hw (i := 8) rfl) (own_w hw (i := 9) rfl) (own_w hw (i := 7) rfl) (own_w hw (i := 10) rfl) rfl (rmCt Z a0 hw ac ia ib ie [(uvF k0.val w0.val s0.val).1, (uvF k1.val w1.val s1.val).1, (uvF k2.val w2.val s2.val).1, (uvF k3.val w3.val s3.val).1] [(uvF k0.val w0.val s0.val).2, (uvF k1.val w1.val s1.val).2, (uvF k2.val w2.val s2.val).2, (uvF k3.val w3.val s3.val).2] [10, 11, 12, 13] p u9 u0 um yl hnc n0 (by omega) gc (by omega) (by omega) (by omega) rfl hun hu1 hu2 hp ⟨Ac, (Dc (Or.inr (own_w hw (i := 17) rfl)) (ty := .int) (by decide)), (Dc (Or.inr (own_w hw (i := 19) rfl)) (ty := (.array .int)) (by decide)), (Dc (Or.inr (own_w hw (i := 21) rfl)) (ty := (.array .int)) (by decide)), (Dc (Or.inr (own_w hw (i := 23) rfl)) (ty := (.array .int)) (by decide)), (Dc (Or.inr (own_w hw (i := 25) rfl)) (ty := (.array .int)) (by decide)), (Dc (Or.inr (own_w hw (i := 64) rfl)) (ty := .int) (by decide)), (Dc (Or.inr (own_w hw (i := 44) rfl)) (ty := (.object "com/example/joinweave/joinweave/graph/UnionFind")) (by decide)), (Dc (Or.inr (own_w hw (i := 67) rfl)) (ty := (.array .byte)) (by decide)), (Dc (Or.inl (own_w hw (i := 15) rfl)) (ty := .int) (by decide)), (Dc (Or.inr (own_w hw (i := 69) rfl)) (ty := (.array .int)) (by decide)), (Dc (Or.inl (own_w hw (i := 76) rfl)) (ty := .int) (by decide))⟩ fa fb fe) at_115 rfl rfl (lenOf pd1 rfl) (by decide) (by decide) 1 rfl (by decide) rfl rfl (by decide) (by decide) rfl ?_
      rintro _ hc1 ⟨rfl, A, B, D, P, f, pa, sa, ha, CH, TK, gA, Kc, TT⟩
      replace fk := Ai.keep fk Kc (nnS (by omega) nin0)
      show Go E room_1 n0 Q1 hc1 16 65 118 #[.val (.int sh), .val (.int en), .val (.int sp), .val (.ref ia), .val (.ref ib), .val (.ref kd), .val (.ref ie), .val (.int ((((retF k0.val) ||| (retF k1.val)) ||| (retF k2.val)) ||| (retF k3.val))), .unset, .unset, .unset, .unset, .unset, .unset, .unset, .unset, .unset, .unset, .unset, .unset] [(.ref ac)]
      refine go_astore C (pc' := 120) (Ls' := #[.val (.int sh), .val (.int en), .val (.int sp), .val (.ref ia), .val (.ref ib), .val (.ref kd), .val (.ref ie), .val (.int ((((retF k0.val) ||| (retF k1.val)) ||| (retF k2.val)) ||| (retF k3.val))), .val (.ref ac), .unset, .unset, .unset, .unset, .unset, .unset, .unset, .unset, .unset, .unset, .unset]) at_118 rfl rfl rfl ?_
      refine go_aload C (pc' := 122) at_120 rfl rfl rfl ?_
      refine go_callV C (pc' := 125) (k' := 16) (n' := 65) (argsL := []) (rest := []) (own_w hw (i := 70) rfl) (own_w hw (i := 71) rfl) (own_w hw (i := 73) rfl) (own_w hw (i := 72) rfl) (own_w hw (i := 7) rfl) (own_w hw (i := 74) rfl) (TT.1.1) (rmFst Z a0 hw ac A B D P f pa sa ha CH TK p.1 p.2.1 p.2.2.1 p.2.2.2 2 u9 [0, 0, 0, 0] [0, 0] 0 S0 d0 hc1 n0 gc TT htk) at_122 rfl rfl (lenOf pd2 rfl) (by decide) (by decide) 0 rfl (by decide) rfl rfl (by decide) (by decide) rfl ?_
      rintro _ hc2 ⟨rfl, K2, T2⟩
      have hkd : kd < ac := by omega
      replace fk := Ai.keep fk K2 (TT.nin hkd)
      show Go E room_1 n0 Q1 hc2 16 65 125 #[.val (.int sh), .val (.int en), .val (.int sp), .val (.ref ia), .val (.ref ib), .val (.ref kd), .val (.ref ie), .val (.int ((((retF k0.val) ||| (retF k1.val)) ||| (retF k2.val)) ||| (retF k3.val))), .val (.ref ac), .unset, .unset, .unset, .unset, .unset, .unset, .unset, .unset, .unset, .unset, .unset] []
      refine go_iloadN C (pc' := 126) at_125 rfl rfl ?_
      refine go_iconst C (pc' := 127) (z := 3) at_126 rfl rfl ?_
      refine go_iand C (pc' := 128) at_127 rfl ?_
      obtain ⟨nn, en_⟩ := own_m3 sp
      rw [en_]
      refine go_istore C (pc' := 130) (Ls' := #[.val (.int sh), .val (.int en), .val (.int sp), .val (.ref ia), .val (.ref ib), .val (.ref kd), .val (.ref ie), .val (.int ((((retF k0.val) ||| (retF k1.val)) ||| (retF k2.val)) ||| (retF k3.val))), .val (.ref ac), .val (.int (Int32.ofNat nn.val)), .unset, .unset, .unset, .unset, .unset, .unset, .unset, .unset, .unset, .unset]) at_128 rfl rfl ?_
      refine go_iconst C (pc' := 131) (z := 1) at_130 rfl rfl ?_
      refine go_istore C (pc' := 133) (Ls' := #[.val (.int sh), .val (.int en), .val (.int sp), .val (.ref ia), .val (.ref ib), .val (.ref kd), .val (.ref ie), .val (.int ((((retF k0.val) ||| (retF k1.val)) ||| (retF k2.val)) ||| (retF k3.val))), .val (.ref ac), .val (.int (Int32.ofNat nn.val)), .val (.int (1 : Int32)), .unset, .unset, .unset, .unset, .unset, .unset, .unset, .unset, .unset]) at_131 rfl rfl ?_
      exact t133 Z a0 hw E C ac A B D P f pa sa ha CH TK ia ib kd ie sh en sp _ p.1 p.2.1 p.2.2.1 p.2.2.2 k0 k1 k2 k3 n0 gc hkd nn.val nn.isLt S0 d0 hc2 (run_all 3 1 S0 d0 hall nn.val (by have := nn.isLt; omega)) T2 fk
    · intro q2
      refine go_iconst C (pc' := 104) (z := 1) at_103 rfl rfl ?_
      refine go_retZ C at_104 (by decide) (by decide) (by decide) ?_
      exact rfl
set_option maxRecDepth 65536 in
set_option maxHeartbeats 4000000 in
theorem comes_1 {Post : Tables → Env → Array Value → State → Outcome → State → Prop} (hpost : ∀ tb e args s v u, (limb_1_1.after args s (.returned v) u = true ∧ limb_1_2.after args s (.returned v) u = true ∧ True) → FrameEnd s (.returned v) u (Jvm.fieldLocs frame_1_writes args s ++ Jvm.arrayLocs frame_1_arrays args s ++ Jvm.staticLocs frame_1_statics s) 48 256 → Post tb e args s (.returned v) u) :
    ArmFor flags0 classFile x code maxLocals ret World_1 tables_1 room_1 Calls_1 rest_1 Pre_1 Post := by
  intro l hfl _ _ p e ha hc hk s m args below hf hA hF happ hP
  obtain ⟨hcalls, hrest, hpre⟩ := hP
  obtain ⟨-, -, -, hnamed, -, -, -, hat⟩ := (Spec.applies_iff hf).mp happ
  obtain ⟨hg, hn⟩ := and_e (Cond.before_iff.mp (show (Jvm.Cond.and given_1 narrow_1).before args s = true from hpre))
  obtain ⟨hcnt, g0⟩ := and_e hg
  obtain ⟨f0, g1⟩ := and_e g0
  obtain ⟨f1, g2⟩ := and_e g1
  obtain ⟨w0, w1, w2, rfl⟩ : ∃ w0 w1 w2 : Value, args = #[w0, w1, w2] := by
    have hs : args.size = 3 := by simpa [Cond.value, given_1] using hcnt
    obtain ⟨L⟩ := args
    match L, hs with
    | [w0, w1, w2], _ => exact ⟨w0, w1, w2, rfl⟩
  have hw := fun d (hd : d ∈ tables_1) => atoms_spec (ws := Jvm.Cond.code x code maxLocals ret :: tables_1) hat d (List.mem_cons_of_mem _ hd)
  obtain ⟨i0, e0⟩ := is_v f0
  obtain rfl : w0 = (.int i0) := Option.some.inj e0
  obtain ⟨i1, e1⟩ := is_v f1
  obtain rfl : w1 = (.int i1) := Option.some.inj e1
  obtain ⟨i2, e2⟩ := is_v g2
  obtain rfl : w2 = (.int i2) := Option.some.inj e2
  obtain ⟨n, o, h1, h2, h3, _, L, rfl, ⟨rfl, N⟩, hq⟩ := rm0 s _ hw i0 i1 i2 s.heap s.heap.size (Nat.le_refl _) l tables_1 p e ha hc hk s m _ below hf ((Spec.applies_iff_loose hf).mp happ).1 ⟨rfl, State.Warmed39.refl s, rfl⟩ trivial
  refine ⟨n, _, h1, h2, h3, hpost _ _ _ _ _ _ ⟨Cond.after_iff.mpr rfl, Cond.after_iff.mpr (eq_i res_at (Term.int_eval (1)) rfl), trivial⟩ ⟨hq.1, hq.2.1, (hq.2.2.sift fun y hy => Or.inr (N y hy)).mono (by decide) (by decide)⟩⟩
theorem main_1_1 : Claimed_1_1 := comes_1 fun _ _ _ _ _ _ h hF => ⟨h.1, hF⟩
theorem main_1_2 : Claimed_1_2 := comes_1 fun _ _ _ _ _ _ h hF => ⟨h.2.1, hF⟩
end Jvm.Pilot.@@N@@
namespace Jvm.Pilot.@@N@@
open Jvm Jvm.ClassFile Sem Op Lib Jvm.Free Jvm.Stand Jvm.Pilot.@@N@@.Jvm.D
/-! MADE BY PROGRAM (witnessworld.py) out of the Statement's table words and the real class files: 14 classes; the members and pool entries that the words name. The judged class is class 1, her method 1. -/
namespace start1
open Jvm.ClassFile
def u (s : String) : CpInfo := .utf8 (stringToUtf16 s)
/-- a pool by its gaps: so many unusable entries, then the entry; so many at the end -/
def gap : Nat → List CpInfo → List CpInfo
  | 0, r => r
  | n + 1, r => .unusable :: gap n r
def poolList (es : List (Nat × CpInfo)) (last : Nat) : List CpInfo := es.foldr (fun e r => gap e.1 (e.2 :: r)) (gap last [])
def pool (es : List (Nat × CpInfo)) (last : Nat) : Array CpInfo := ⟨poolList es last⟩
def fileOf (pool : Array CpInfo) (this : Nat) (attrs : Array Attribute := #[]) (ms : Array MethodInfo := #[]) (fl : Nat := 33) (sup : Nat := 0) (ifs : Array Nat := #[]) (fds : Array FieldInfo := #[]) : ClassFile where
  minorVersion := 0
  majorVersion := 65
  constantPool := pool
  accessFlags := fl
  thisClass := this
  superClass := sup
  interfaces := ifs
  fields := fds
  methods := ms
  attributes := attrs
def plain (name : String) (sup : Option ClassId) : Class where
  name := name
  kind := .ordinary
  loader := none
  accessFlags := 33
  super := sup
  interfaces := #[]
  cf := none
  fields := #[]
  methods := #[]
  instanceTypes := #[]
  staticTypes := #[]
  resolved := #[]
  callSites := []
  init := .initialized
  statics := none
  mirror := none

def pool0 : Array CpInfo := pool [(5, u "<init>"), (0, u "()V"), (1, .class_ 10), (1, u "java/lang/Object")] 113

def k0c0 : Code := { maxStack := 0, maxLocals := 1, code := object_method_1_code, exceptionTable := #[], attributes := #[] }
def k0m0 : Method := { name := "<init>", desc := "()V", sig := { parameters := [], returnType := none }, accessFlags := 1, code := some k0c0 }
/-- java/lang/Object -/
def k0 : Class := { plain "java/lang/Object" none with
  accessFlags := 33
  interfaces := #[]
  cf := some (fileOf pool0 8 #[] #[{ accessFlags := 1, nameIndex := 5, descriptorIndex := 6, attributes := #[] }] 33 0 #[] #[])
  fields := #[]
  methods := #[k0m0]
  instanceTypes := #[]
  staticTypes := #[]
  resolved := Array.replicate 124 none
  statics := none }

def pool1 : Array CpInfo := pool [(2, .class_ 4), (1, u "java/lang/Object"), (0, u "<init>"), (0, u "()V"), (0, .methodref 8 9), (0, .class_ 10), (0, .nameAndType 11 12), (0, u "com/example/joinweave/joinweave/graph/CoreTreesTakenPinLaw"), (0, u "fill"), (0, u "([I[I[IIII)I"), (0, .class_ 14), (0, u "com/example/joinweave/joinweave/graph/CoreTrees"), (0, .methodref 13 16), (0, .nameAndType 5 17), (0, u "(I[I[I[I)V"), (0, .methodref 13 19), (0, .nameAndType 20 6), (0, u "first"), (0, .methodref 13 22), (0, .nameAndType 23 24), (0, u "next"), (0, u "()Z"), (0, .methodref 13 26), (0, .nameAndType 27 28), (0, u "taken"), (0, u "(I)Z"), (0, .methodref 13 30), (0, .nameAndType 31 32), (0, u "copyTo"), (0, u "([II)I"), (0, .methodref 8 34), (0, .nameAndType 35 36), (0, u "bit"), (0, u "(ZI)I"), (0, .methodref 8 38), (0, .nameAndType 39 40), (0, u "agree"), (0, u "(Z[II)Z"), (2, u "law"), (0, u "(III)Z")] 5

def k1m0 : Method := { name := "<init>", desc := "()V", sig := { parameters := [], returnType := none }, accessFlags := 2, code := none }
def k1c1 : Code := { maxStack := 7, maxLocals := 20, code := code, exceptionTable := #[], attributes := #[] }
def k1m1 : Method := { name := "law", desc := "(III)Z", sig := { parameters := [.int, .int, .int], returnType := some .boolean }, accessFlags := 9, code := some k1c1 }
def k1c2 : Code := { maxStack := 3, maxLocals := 10, code := method_3_code, exceptionTable := #[], attributes := #[] }
def k1m2 : Method := { name := "fill", desc := "([I[I[IIII)I", sig := { parameters := [(.array .int), (.array .int), (.array .int), .int, .int, .int], returnType := some .int }, accessFlags := 10, code := some k1c2 }
def k1c3 : Code := { maxStack := 3, maxLocals := 3, code := method_4_code, exceptionTable := #[], attributes := #[] }
def k1m3 : Method := { name := "agree", desc := "(Z[II)Z", sig := { parameters := [.boolean, (.array .int), .int], returnType := some .boolean }, accessFlags := 10, code := some k1c3 }
def k1c4 : Code := { maxStack := 2, maxLocals := 2, code := method_5_code, exceptionTable := #[], attributes := #[] }
def k1m4 : Method := { name := "bit", desc := "(ZI)I", sig := { parameters := [.boolean, .int], returnType := some .int }, accessFlags := 10, code := some k1c4 }
/-- com/example/joinweave/joinweave/graph/CoreTreesTakenPinLaw -/
def k1 : Class := { plain "com/example/joinweave/joinweave/graph/CoreTreesTakenPinLaw" (some 0) with
  accessFlags := 49
  interfaces := #[]
  cf := some (fileOf pool1 8 #[] #[{ accessFlags := 2, nameIndex := 5, descriptorIndex := 6, attributes := #[] }, { accessFlags := 9, nameIndex := 43, descriptorIndex := 44, attributes := #[] }, { accessFlags := 10, nameIndex := 11, descriptorIndex := 12, attributes := #[] }, { accessFlags := 10, nameIndex := 39, descriptorIndex := 40, attributes := #[] }, { accessFlags := 10, nameIndex := 35, descriptorIndex := 36, attributes := #[] }] 49 2 #[] #[])
  fields := #[]
  methods := #[k1m0, k1m1, k1m2, k1m3, k1m4]
  instanceTypes := #[]
  staticTypes := #[]
  resolved := Array.replicate 50 none
  statics := none }

def pool2 : Array CpInfo := pool [(1, .methodref 2 3), (0, .class_ 4), (0, .nameAndType 5 6), (0, u "java/lang/Object"), (0, u "<init>"), (0, u "()V"), (0, .fieldref 8 9), (0, .class_ 10), (0, .nameAndType 11 12), (0, u "com/example/joinweave/joinweave/graph/CoreTrees"), (0, u "decided"), (0, u "I"), (0, .fieldref 8 14), (0, .nameAndType 15 12), (0, u "vertices"), (0, .fieldref 8 17), (0, .nameAndType 18 19), (0, u "a"), (0, u "[I"), (0, .fieldref 8 21), (0, .nameAndType 22 19), (0, u "b"), (0, .fieldref 8 24), (0, .nameAndType 25 19), (0, u "edge"), (0, .fieldref 8 27), (0, .nameAndType 28 19), (0, u "positionOf"), (0, .class_ 30), (0, u "com/example/joinweave/joinweave/graph/UnionFind"), (0, .methodref 29 32), (0, .nameAndType 5 33), (0, u "(I)V"), (0, .fieldref 8 35), (0, .nameAndType 36 37), (0, u "forest"), (0, u "Lcom/example/joinweave/joinweave/graph/UnionFind;"), (0, .methodref 29 39), (0, .nameAndType 40 41), (0, u "union"), (0, u "(II)Z"), (0, .methodref 29 43), (0, .nameAndType 44 6), (0, u "undo"), (0, .fieldref 8 46), (0, .nameAndType 47 12), (0, u "lastTreeStart"), (0, .fieldref 8 49), (0, .nameAndType 50 51), (0, u "choice"), (0, u "[B"), (0, .fieldref 8 53), (0, .nameAndType 54 19), (0, u "taken"), (0, .fieldref 8 56), (0, .nameAndType 57 12), (0, u "takenCount"), (0, .methodref 8 59), (0, .nameAndType 60 33), (0, u "takeFrom"), (0, .methodref 8 62), (0, .nameAndType 63 64), (0, u "canLeave"), (0, u "(I)Z"), (0, .methodref 66 67), (0, .class_ 68), (0, .nameAndType 69 70), (0, u "java/lang/System"), (0, u "arraycopy"), (0, u "(Ljava/lang/Object;ILjava/lang/Object;II)V"), (0, .methodref 29 72), (0, .nameAndType 73 74), (0, u "sets"), (0, u "()I"), (0, u "TAKEN"), (0, u "B"), (2, u "LEFT"), (1, u "(I[I[I[I)V"), (6, u "first"), (0, u "next"), (0, u "()Z"), (0, u "copyTo"), (0, u "([II)I")] 2

def k2c0 : Code := { maxStack := 6, maxLocals := 10, code := prog_138_method_1_code, exceptionTable := #[], attributes := #[] }
def k2m0 : Method := { name := "<init>", desc := "(I[I[I[I)V", sig := { parameters := [.int, (.array .int), (.array .int), (.array .int)], returnType := none }, accessFlags := 0, code := some k2c0 }
def k2c1 : Code := { maxStack := 3, maxLocals := 1, code := prog_138_method_2_code, exceptionTable := #[], attributes := #[] }
def k2m1 : Method := { name := "first", desc := "()V", sig := { parameters := [], returnType := none }, accessFlags := 0, code := some k2c1 }
def k2c2 : Code := { maxStack := 3, maxLocals := 2, code := prog_138_method_3_code, exceptionTable := #[], attributes := #[] }
def k2m2 : Method := { name := "next", desc := "()Z", sig := { parameters := [], returnType := some .boolean }, accessFlags := 0, code := some k2c2 }
def k2c3 : Code := { maxStack := 2, maxLocals := 3, code := prog_138_method_4_code, exceptionTable := #[], attributes := #[] }
def k2m3 : Method := { name := "taken", desc := "(I)Z", sig := { parameters := [.int], returnType := some .boolean }, accessFlags := 0, code := some k2c3 }
def k2c4 : Code := { maxStack := 5, maxLocals := 3, code := prog_138_method_5_code, exceptionTable := #[], attributes := #[] }
def k2m4 : Method := { name := "copyTo", desc := "([II)I", sig := { parameters := [(.array .int), .int], returnType := some .int }, accessFlags := 0, code := some k2c4 }
def k2c5 : Code := { maxStack := 5, maxLocals := 3, code := prog_138_method_6_code, exceptionTable := #[], attributes := #[] }
def k2m5 : Method := { name := "takeFrom", desc := "(I)V", sig := { parameters := [.int], returnType := none }, accessFlags := 2, code := some k2c5 }
def k2c6 : Code := { maxStack := 4, maxLocals := 5, code := prog_138_method_7_code, exceptionTable := #[], attributes := #[] }
def k2m6 : Method := { name := "canLeave", desc := "(I)Z", sig := { parameters := [.int], returnType := some .boolean }, accessFlags := 2, code := some k2c6 }
/-- com/example/joinweave/joinweave/graph/CoreTrees -/
def k2 : Class := { plain "com/example/joinweave/joinweave/graph/CoreTrees" (some 0) with
  accessFlags := 48
  interfaces := #[]
  cf := some (fileOf pool2 8 #[] #[{ accessFlags := 0, nameIndex := 5, descriptorIndex := 81, attributes := #[] }, { accessFlags := 0, nameIndex := 88, descriptorIndex := 6, attributes := #[] }, { accessFlags := 0, nameIndex := 89, descriptorIndex := 90, attributes := #[] }, { accessFlags := 0, nameIndex := 54, descriptorIndex := 64, attributes := #[] }, { accessFlags := 0, nameIndex := 91, descriptorIndex := 92, attributes := #[] }, { accessFlags := 2, nameIndex := 60, descriptorIndex := 33, attributes := #[] }, { accessFlags := 2, nameIndex := 63, descriptorIndex := 64, attributes := #[] }] 48 2 #[] #[{ accessFlags := 26, nameIndex := 75, descriptorIndex := 76, attributes := #[] }, { accessFlags := 26, nameIndex := 79, descriptorIndex := 76, attributes := #[] }, { accessFlags := 18, nameIndex := 15, descriptorIndex := 12, attributes := #[] }, { accessFlags := 18, nameIndex := 18, descriptorIndex := 19, attributes := #[] }, { accessFlags := 18, nameIndex := 22, descriptorIndex := 19, attributes := #[] }, { accessFlags := 18, nameIndex := 25, descriptorIndex := 19, attributes := #[] }, { accessFlags := 18, nameIndex := 28, descriptorIndex := 19, attributes := #[] }, { accessFlags := 18, nameIndex := 47, descriptorIndex := 12, attributes := #[] }, { accessFlags := 18, nameIndex := 36, descriptorIndex := 37, attributes := #[] }, { accessFlags := 18, nameIndex := 50, descriptorIndex := 51, attributes := #[] }, { accessFlags := 2, nameIndex := 11, descriptorIndex := 12, attributes := #[] }, { accessFlags := 18, nameIndex := 54, descriptorIndex := 19, attributes := #[] }, { accessFlags := 2, nameIndex := 57, descriptorIndex := 12, attributes := #[] }])
  fields := #[{ name := "TAKEN", type := .byte, accessFlags := 26, slot := 0, constantValue := 0 }, { name := "LEFT", type := .byte, accessFlags := 26, slot := 1, constantValue := 0 }, { name := "vertices", type := .int, accessFlags := 18, slot := 0, constantValue := 0 }, { name := "a", type := (.array .int), accessFlags := 18, slot := 1, constantValue := 0 }, { name := "b", type := (.array .int), accessFlags := 18, slot := 2, constantValue := 0 }, { name := "edge", type := (.array .int), accessFlags := 18, slot := 3, constantValue := 0 }, { name := "positionOf", type := (.array .int), accessFlags := 18, slot := 4, constantValue := 0 }, { name := "lastTreeStart", type := .int, accessFlags := 18, slot := 5, constantValue := 0 }, { name := "forest", type := (.object "com/example/joinweave/joinweave/graph/UnionFind"), accessFlags := 18, slot := 6, constantValue := 0 }, { name := "choice", type := (.array .byte), accessFlags := 18, slot := 7, constantValue := 0 }, { name := "decided", type := .int, accessFlags := 2, slot := 8, constantValue := 0 }, { name := "taken", type := (.array .int), accessFlags := 18, slot := 9, constantValue := 0 }, { name := "takenCount", type := .int, accessFlags := 2, slot := 10, constantValue := 0 }]
  methods := #[k2m0, k2m1, k2m2, k2m3, k2m4, k2m5, k2m6]
  instanceTypes := #[.int, (.array .int), (.array .int), (.array .int), (.array .int), .int, (.object "com/example/joinweave/joinweave/graph/UnionFind"), (.array .byte), .int, (.array .int), .int]
  staticTypes := #[.byte, .byte]
  resolved := Array.replicate 95 none
  statics := none }

def pool3 : Array CpInfo := pool [(1, .methodref 2 3), (0, .class_ 4), (0, .nameAndType 5 6), (0, u "java/lang/Object"), (0, u "<init>"), (0, u "()V"), (0, .fieldref 8 9), (0, .class_ 10), (0, .nameAndType 11 12), (0, u "com/example/joinweave/joinweave/graph/UnionFind"), (0, u "parent"), (0, u "[I"), (0, .fieldref 8 14), (0, .nameAndType 15 12), (0, u "size"), (0, .methodref 17 18), (0, .class_ 19), (0, .nameAndType 20 21), (0, u "java/lang/Math"), (0, u "max"), (0, u "(II)I"), (0, .fieldref 8 23), (0, .nameAndType 24 12), (0, u "hung"), (0, .methodref 8 26), (0, .nameAndType 27 28), (0, u "find"), (0, u "(I)I"), (0, .fieldref 8 30), (0, .nameAndType 31 32), (0, u "unions"), (0, u "I"), (0, u "(I)V"), (3, u "union"), (0, u "(II)Z"), (0, u "undo"), (0, u "sets"), (0, u "()I")] 2

def k3c0 : Code := { maxStack := 4, maxLocals := 3, code := prog_165_method_1_code, exceptionTable := #[], attributes := #[] }
def k3m0 : Method := { name := "<init>", desc := "(I)V", sig := { parameters := [.int], returnType := none }, accessFlags := 0, code := some k3c0 }
def k3c1 : Code := { maxStack := 2, maxLocals := 3, code := prog_165_method_2_code, exceptionTable := #[], attributes := #[] }
def k3m1 : Method := { name := "find", desc := "(I)I", sig := { parameters := [.int], returnType := some .int }, accessFlags := 0, code := some k3c1 }
def k3c2 : Code := { maxStack := 5, maxLocals := 6, code := prog_165_method_3_code, exceptionTable := #[], attributes := #[] }
def k3m2 : Method := { name := "union", desc := "(II)Z", sig := { parameters := [.int, .int], returnType := some .boolean }, accessFlags := 0, code := some k3c2 }
def k3c3 : Code := { maxStack := 5, maxLocals := 2, code := prog_165_method_4_code, exceptionTable := #[], attributes := #[] }
def k3m3 : Method := { name := "undo", desc := "()V", sig := { parameters := [], returnType := none }, accessFlags := 0, code := some k3c3 }
def k3c4 : Code := { maxStack := 2, maxLocals := 1, code := prog_165_method_5_code, exceptionTable := #[], attributes := #[] }
def k3m4 : Method := { name := "sets", desc := "()I", sig := { parameters := [], returnType := some .int }, accessFlags := 0, code := some k3c4 }
/-- com/example/joinweave/joinweave/graph/UnionFind -/
def k3 : Class := { plain "com/example/joinweave/joinweave/graph/UnionFind" (some 0) with
  accessFlags := 48
  interfaces := #[]
  cf := some (fileOf pool3 8 #[] #[{ accessFlags := 0, nameIndex := 5, descriptorIndex := 33, attributes := #[] }, { accessFlags := 0, nameIndex := 27, descriptorIndex := 28, attributes := #[] }, { accessFlags := 0, nameIndex := 37, descriptorIndex := 38, attributes := #[] }, { accessFlags := 0, nameIndex := 39, descriptorIndex := 6, attributes := #[] }, { accessFlags := 0, nameIndex := 40, descriptorIndex := 41, attributes := #[] }] 48 2 #[] #[{ accessFlags := 18, nameIndex := 11, descriptorIndex := 12, attributes := #[] }, { accessFlags := 18, nameIndex := 15, descriptorIndex := 12, attributes := #[] }, { accessFlags := 18, nameIndex := 24, descriptorIndex := 12, attributes := #[] }, { accessFlags := 2, nameIndex := 31, descriptorIndex := 32, attributes := #[] }])
  fields := #[{ name := "parent", type := (.array .int), accessFlags := 18, slot := 0, constantValue := 0 }, { name := "size", type := (.array .int), accessFlags := 18, slot := 1, constantValue := 0 }, { name := "hung", type := (.array .int), accessFlags := 18, slot := 2, constantValue := 0 }, { name := "unions", type := .int, accessFlags := 2, slot := 3, constantValue := 0 }]
  methods := #[k3m0, k3m1, k3m2, k3m3, k3m4]
  instanceTypes := #[(.array .int), (.array .int), (.array .int), .int]
  staticTypes := #[]
  resolved := Array.replicate 44 none
  statics := none }

def pool4 : Array CpInfo := pool [(1, .class_ 2), (0, u "java/lang/Math"), (1, .class_ 6), (1, u "java/lang/Object"), (0, u "<init>"), (0, u "()V"), (89, .class_ 100), (1, u "java/lang/Math$RandomNumberGeneratorHolder"), (71, u "negativeZeroFloatBits"), (0, u "J"), (2, u "negativeZeroDoubleBits"), (21, u "max"), (46, u "$assertionsDisabled"), (0, u "Z"), (88, u "(II)I"), (2, u "twoToTheDoubleScaleDown"), (0, u "D"), (4, u "twoToTheDoubleScaleUp"), (9, u "E"), (3, u "PI"), (2, u "TAU"), (2, u "DEGREES_TO_RADIANS"), (0, u "RADIANS_TO_DEGREES")] 94

def k4m0 : Method := { name := "<init>", desc := "()V", sig := { parameters := [], returnType := none }, accessFlags := 2, code := none }
def k4c1 : Code := { maxStack := 2, maxLocals := 2, code := jdk_29_method_65_code, exceptionTable := #[], attributes := #[] }
def k4m1 : Method := { name := "max", desc := "(II)I", sig := { parameters := [.int, .int], returnType := some .int }, accessFlags := 9, code := some k4c1 }
/-- java/lang/Math -/
def k4 : Class := { plain "java/lang/Math" (some 0) with
  accessFlags := 49
  interfaces := #[]
  cf := some (fileOf pool4 1 #[.nestMembers #[98]] #[{ accessFlags := 2, nameIndex := 7, descriptorIndex := 8, attributes := #[] }, { accessFlags := 9, nameIndex := 198, descriptorIndex := 335, attributes := #[] }] 49 4 #[] #[{ accessFlags := 25, nameIndex := 354, descriptorIndex := 339, attributes := #[] }, { accessFlags := 25, nameIndex := 358, descriptorIndex := 339, attributes := #[] }, { accessFlags := 25, nameIndex := 361, descriptorIndex := 339, attributes := #[] }, { accessFlags := 26, nameIndex := 364, descriptorIndex := 339, attributes := #[] }, { accessFlags := 26, nameIndex := 365, descriptorIndex := 339, attributes := #[] }, { accessFlags := 26, nameIndex := 172, descriptorIndex := 173, attributes := #[] }, { accessFlags := 26, nameIndex := 176, descriptorIndex := 173, attributes := #[] }, { accessFlags := 8, nameIndex := 344, descriptorIndex := 339, attributes := #[] }, { accessFlags := 8, nameIndex := 338, descriptorIndex := 339, attributes := #[] }, { accessFlags := 4120, nameIndex := 245, descriptorIndex := 246, attributes := #[] }])
  fields := #[{ name := "E", type := .double, accessFlags := 25, slot := 0, constantValue := 0 }, { name := "PI", type := .double, accessFlags := 25, slot := 1, constantValue := 0 }, { name := "TAU", type := .double, accessFlags := 25, slot := 2, constantValue := 0 }, { name := "DEGREES_TO_RADIANS", type := .double, accessFlags := 26, slot := 3, constantValue := 0 }, { name := "RADIANS_TO_DEGREES", type := .double, accessFlags := 26, slot := 4, constantValue := 0 }, { name := "negativeZeroFloatBits", type := .long, accessFlags := 26, slot := 5, constantValue := 0 }, { name := "negativeZeroDoubleBits", type := .long, accessFlags := 26, slot := 6, constantValue := 0 }, { name := "twoToTheDoubleScaleUp", type := .double, accessFlags := 8, slot := 7, constantValue := 0 }, { name := "twoToTheDoubleScaleDown", type := .double, accessFlags := 8, slot := 8, constantValue := 0 }, { name := "$assertionsDisabled", type := .boolean, accessFlags := 4120, slot := 9, constantValue := 0 }]
  methods := #[k4m0, k4m1]
  instanceTypes := #[]
  staticTypes := #[.double, .double, .double, .double, .double, .long, .long, .double, .double, .boolean]
  resolved := Array.replicate 460 none
  statics := none }

def pool5 : Array CpInfo := pool [(2, .class_ 4), (1, u "java/lang/Object"), (0, u "<init>"), (0, u "()V"), (1, .class_ 10), (1, u "java/lang/System"), (0, u "allowSecurityManager"), (0, u "I"), (16, u "cons"), (0, u "Ljava/io/Console;"), (77, .class_ 110), (1, u "java/lang/System$CallersHolder"), (43, u "initialErrStream"), (0, u "Ljava/io/PrintStream;"), (19, u "security"), (0, u "Ljava/lang/SecurityManager;"), (31, .class_ 209), (0, u "java/lang/System$1"), (7, u "props"), (0, u "Ljava/util/Properties;"), (2, u "lineSeparator"), (0, u "Ljava/lang/String;"), (96, .class_ 321), (1, u "java/lang/System$LoggerFinder"), (5, .class_ 328), (0, u "java/lang/System$Logger"), (67, u "err"), (2, u "out"), (91, u "notSupportedJnuEncoding"), (15, u "in"), (17, u "initialIn"), (0, u "Ljava/io/InputStream;"), (35, u "bootLayer"), (0, u "Ljava/lang/ModuleLayer;"), (99, .class_ 664), (0, u "java/lang/System$2"), (9, u "NEVER"), (2, u "MAYBE"), (49, u "arraycopy"), (0, u "(Ljava/lang/Object;ILjava/lang/Object;II)V"), (72, .class_ 802), (0, u "java/lang/System$Logger$Level")] 31

def k5m0 : Method := { name := "<init>", desc := "()V", sig := { parameters := [], returnType := none }, accessFlags := 2, code := none }
def k5m1 : Method := { name := "arraycopy", desc := "(Ljava/lang/Object;ILjava/lang/Object;II)V", sig := { parameters := [(.object "java/lang/Object"), .int, (.object "java/lang/Object"), .int, .int], returnType := none }, accessFlags := 265, code := none }
/-- java/lang/System -/
def k5 : Class := { plain "java/lang/System" (some 0) with
  accessFlags := 49
  interfaces := #[]
  cf := some (fileOf pool5 8 #[.nestMembers #[319, 327, 801, 108, 663, 208]] #[{ accessFlags := 2, nameIndex := 5, descriptorIndex := 6, attributes := #[] }, { accessFlags := 265, nameIndex := 727, descriptorIndex := 728, attributes := #[] }] 49 2 #[] #[{ accessFlags := 25, nameIndex := 507, descriptorIndex := 526, attributes := #[] }, { accessFlags := 25, nameIndex := 399, descriptorIndex := 155, attributes := #[] }, { accessFlags := 25, nameIndex := 396, descriptorIndex := 155, attributes := #[] }, { accessFlags := 10, nameIndex := 525, descriptorIndex := 526, attributes := #[] }, { accessFlags := 26, nameIndex := 674, descriptorIndex := 12, attributes := #[] }, { accessFlags := 26, nameIndex := 677, descriptorIndex := 12, attributes := #[] }, { accessFlags := 10, nameIndex := 11, descriptorIndex := 12, attributes := #[] }, { accessFlags := 74, nameIndex := 175, descriptorIndex := 176, attributes := #[] }, { accessFlags := 10, nameIndex := 491, descriptorIndex := 222, attributes := #[] }, { accessFlags := 74, nameIndex := 29, descriptorIndex := 30, attributes := #[] }, { accessFlags := 74, nameIndex := 154, descriptorIndex := 155, attributes := #[] }, { accessFlags := 10, nameIndex := 217, descriptorIndex := 218, attributes := #[] }, { accessFlags := 10, nameIndex := 221, descriptorIndex := 222, attributes := #[] }, { accessFlags := 8, nameIndex := 562, descriptorIndex := 563, attributes := #[] }])
  fields := #[{ name := "in", type := (.object "java/io/InputStream"), accessFlags := 25, slot := 0, constantValue := 0 }, { name := "out", type := (.object "java/io/PrintStream"), accessFlags := 25, slot := 1, constantValue := 0 }, { name := "err", type := (.object "java/io/PrintStream"), accessFlags := 25, slot := 2, constantValue := 0 }, { name := "initialIn", type := (.object "java/io/InputStream"), accessFlags := 10, slot := 3, constantValue := 0 }, { name := "NEVER", type := .int, accessFlags := 26, slot := 4, constantValue := 0 }, { name := "MAYBE", type := .int, accessFlags := 26, slot := 5, constantValue := 0 }, { name := "allowSecurityManager", type := .int, accessFlags := 10, slot := 6, constantValue := 0 }, { name := "security", type := (.object "java/lang/SecurityManager"), accessFlags := 74, slot := 7, constantValue := 0 }, { name := "notSupportedJnuEncoding", type := (.object "java/lang/String"), accessFlags := 10, slot := 8, constantValue := 0 }, { name := "cons", type := (.object "java/io/Console"), accessFlags := 74, slot := 9, constantValue := 0 }, { name := "initialErrStream", type := (.object "java/io/PrintStream"), accessFlags := 74, slot := 10, constantValue := 0 }, { name := "props", type := (.object "java/util/Properties"), accessFlags := 10, slot := 11, constantValue := 0 }, { name := "lineSeparator", type := (.object "java/lang/String"), accessFlags := 10, slot := 12, constantValue := 0 }, { name := "bootLayer", type := (.object "java/lang/ModuleLayer"), accessFlags := 8, slot := 13, constantValue := 0 }]
  methods := #[k5m0, k5m1]
  instanceTypes := #[]
  staticTypes := #[(.object "java/io/InputStream"), (.object "java/io/PrintStream"), (.object "java/io/PrintStream"), (.object "java/io/InputStream"), .int, .int, .int, (.object "java/lang/SecurityManager"), (.object "java/lang/String"), (.object "java/io/Console"), (.object "java/io/PrintStream"), (.object "java/util/Properties"), (.object "java/lang/String"), (.object "java/lang/ModuleLayer")]
  resolved := Array.replicate 834 none
  statics := none }

def pool6 : Array CpInfo := pool [(1, u "java/lang/Cloneable"), (0, .class_ 1), (0, u "java/lang/Object"), (0, .class_ 3)] 3

/-- java/lang/Cloneable -/
def k6 : Class := { plain "java/lang/Cloneable" (some 0) with
  accessFlags := 1537
  interfaces := #[]
  cf := some (fileOf pool6 2 #[] #[] 1537 4 #[] #[])
  fields := #[]
  methods := #[]
  instanceTypes := #[]
  staticTypes := #[]
  resolved := Array.replicate 8 none
  statics := none }

def pool7 : Array CpInfo := pool [(1, u "java/io/Serializable"), (0, .class_ 1), (0, u "java/lang/Object"), (0, .class_ 3)] 3

/-- java/io/Serializable -/
def k7 : Class := { plain "java/io/Serializable" (some 0) with
  accessFlags := 1537
  interfaces := #[]
  cf := some (fileOf pool7 2 #[] #[] 1537 4 #[] #[])
  fields := #[]
  methods := #[]
  instanceTypes := #[]
  staticTypes := #[]
  resolved := Array.replicate 8 none
  statics := none }

/-- the primitive boolean -/
def k8 : Class := { plain "boolean" none with kind := .primitive 'Z', accessFlags := 0x411 }
/-- [Z -/
def k9 : Class := { plain "[Z" (some 0) with kind := .array 8 .boolean, interfaces := #[6, 7], accessFlags := 1041 }

/-- the primitive byte -/
def k10 : Class := { plain "byte" none with kind := .primitive 'B', accessFlags := 0x411 }
/-- [B -/
def k11 : Class := { plain "[B" (some 0) with kind := .array 10 .byte, interfaces := #[6, 7], accessFlags := 1041 }

/-- the primitive int -/
def k12 : Class := { plain "int" none with kind := .primitive 'I', accessFlags := 0x411 }
/-- [I -/
def k13 : Class := { plain "[I" (some 0) with kind := .array 12 .int, interfaces := #[6, 7], accessFlags := 1041 }

def heap : Heap := #[]
def classes : Array Class := #[k0, k1, k2, k3, k4, k5, k6, k7, k8, k9, k10, k11, k12, k13]
def interned : List (Array UInt16 × Addr) := []
def slotsUsed : Nat := 0
def theMethod : MethodId := ⟨1, 1⟩
def args0 : Array Value := #[.int 5, .int 3, .int 1]
def aboutOver (below : List Frame) : State where
  vm := { classes := classes, interned := interned.toArray }
  heap := heap
  slotsUsed := slotsUsed
  threads := #[{ frames := .invoking theMethod args0 :: below }]
def below0 : List Frame := [.native { method := ⟨0, 0⟩, args := #[] }]
def about1 : State := aboutOver below0
def p0 : Program := .bare "" "" ""
def e0 : Env := launch0.env 0 0 0
theorem w_frames : about1.frames = Frame.invoking theMethod args0 :: below0 := rfl
set_option maxRecDepth 65536 in
theorem w_args : argsFit about1.vm theMethod args0 = true := by decide +kernel
set_option maxRecDepth 65536 in
theorem w_heap : heapFits about1 = true := by decide +kernel
set_option maxRecDepth 65536 in
theorem w_runnable : about1.curStatus? = some .runnable := by decide +kernel
set_option maxRecDepth 65536 in
theorem w_alone : about1.alone = true := by decide +kernel
set_option maxRecDepth 65536 in
theorem w_named : about1.methodNamed? x = some theMethod := by decide +kernel
set_option maxRecDepth 65536 in
theorem w_hears : about1.hears theMethod below0 = true := by decide +kernel
set_option maxRecDepth 65536 in
theorem w_ripe : about1.ripe theMethod args0 below0 = true := by decide +kernel
theorem w_running : about1.status = .running := rfl
set_option maxRecDepth 65536 in
theorem w_room : about1.hasRoom e0.platform room_1 = true :=
  launch0.hasRoom_least _ room_1 (by decide +kernel) (by decide +kernel) (by decide +kernel) (by decide +kernel) (by decide +kernel) (by decide +kernel)
theorem allAtoms_all (ts : List Jvm.Cond) (a : Array Jvm.Value) (st : Jvm.State) : (allAtoms ts).before a st = ts.all (fun c => c.before a st) := by
  induction ts with
  | nil => rfl
  | cons c t ih =>
    show (Jvm.Cond.and c (allAtoms t)).before a st = _
    rw [Jvm.Cond.before_and, ih, List.all_cons]
def words1 : List Jvm.Cond := Jvm.Cond.code x code maxLocals ret :: tables_1
/-- a 'code' word, met by the world's own term for the bytes: nothing is compared byte by byte -/
theorem code_word {y : MethodName} {bytes : ByteArray} {mx : Nat} {rt : Option FieldType} {a : Array Value} {s : State} {m : MethodId} {meth : Method} {c : Code} (h1 : s.methodNamed? y = some m) (h2 : s.vm.method? m = some meth) (h3 : meth.code = some c) (h4 : c.code = bytes)
    (h5 : (c.maxLocals == mx && c.exceptionTable.isEmpty && decide (c.maxStack ≤ mostOperands) && decide (meth.sig.returnType = rt) && !meth.locks && decide (parseMethodDescriptor y.desc = some meth.sig)) = true) : (Jvm.Cond.code y bytes mx rt).before a s = true := by
  simp only [Bool.and_eq_true, beq_iff_eq, Bool.not_eq_true', decide_eq_true_eq] at h5
  obtain ⟨⟨⟨⟨⟨g1, g2⟩, g3⟩, g4⟩, g5⟩, g6⟩ := h5
  simp [Cond.before, Cond.holds, Cond.value, h1, h2, h3, h4, g1, g2, g3, g4, g5, g6]
def isCode : Jvm.Cond → Bool
  | .code _ _ _ _ => true
  | _ => false
theorem all_split {L : List Jvm.Cond} {P : Jvm.Cond → Bool} (h1 : L.all (fun c => isCode c || P c) = true) (h2 : ∀ c ∈ L.filter isCode, P c = true) : L.all P = true := by
  refine List.all_eq_true.mpr fun c hc => ?_
  have h := List.all_eq_true.mp h1 c hc
  rcases Bool.eq_false_or_eq_true (isCode c) with hi | hi
  · exact h2 c (List.mem_filter.mpr ⟨hc, hi⟩)
  · simpa [hi] using h
set_option maxRecDepth 65536 in
theorem w_c0 : (Jvm.Cond.code x code maxLocals ret).before args0 about1 = true := code_word (m := ⟨1, 1⟩) (meth := k1m1) (c := k1c1) (by decide +kernel) rfl rfl rfl (by decide +kernel)
set_option maxRecDepth 65536 in
theorem w_c1 : (Jvm.Cond.code ({ cls := "com/example/joinweave/joinweave/graph/CoreTreesTakenPinLaw", name := "fill", desc := "([I[I[IIII)I" } : Jvm.MethodName) method_3_code (10 : Nat) (Option.some Jvm.ClassFile.FieldType.int)).before args0 about1 = true := code_word (m := ⟨1, 2⟩) (meth := k1m2) (c := k1c2) (by decide +kernel) rfl rfl rfl (by decide +kernel)
set_option maxRecDepth 65536 in
theorem w_c2 : (Jvm.Cond.code ({ cls := "com/example/joinweave/joinweave/graph/CoreTrees", name := "<init>", desc := "(I[I[I[I)V" } : Jvm.MethodName) prog_138_method_1_code (10 : Nat) (Option.none : Option Jvm.ClassFile.FieldType)).before args0 about1 = true := code_word (m := ⟨2, 0⟩) (meth := k2m0) (c := k2c0) (by decide +kernel) rfl rfl rfl (by decide +kernel)
set_option maxRecDepth 65536 in
theorem w_c3 : (Jvm.Cond.code ({ cls := "java/lang/Object", name := "<init>", desc := "()V" } : Jvm.MethodName) object_method_1_code (1 : Nat) (Option.none : Option Jvm.ClassFile.FieldType)).before args0 about1 = true := code_word (m := ⟨0, 0⟩) (meth := k0m0) (c := k0c0) (by decide +kernel) rfl rfl rfl (by decide +kernel)
set_option maxRecDepth 65536 in
theorem w_c4 : (Jvm.Cond.code ({ cls := "com/example/joinweave/joinweave/graph/UnionFind", name := "<init>", desc := "(I)V" } : Jvm.MethodName) prog_165_method_1_code (3 : Nat) (Option.none : Option Jvm.ClassFile.FieldType)).before args0 about1 = true := code_word (m := ⟨3, 0⟩) (meth := k3m0) (c := k3c0) (by decide +kernel) rfl rfl rfl (by decide +kernel)
set_option maxRecDepth 65536 in
theorem w_c5 : (Jvm.Cond.code ({ cls := "java/lang/Math", name := "max", desc := "(II)I" } : Jvm.MethodName) jdk_29_method_65_code (2 : Nat) (Option.some Jvm.ClassFile.FieldType.int)).before args0 about1 = true := code_word (m := ⟨4, 1⟩) (meth := k4m1) (c := k4c1) (by decide +kernel) rfl rfl rfl (by decide +kernel)
set_option maxRecDepth 65536 in
theorem w_c6 : (Jvm.Cond.code ({ cls := "com/example/joinweave/joinweave/graph/UnionFind", name := "union", desc := "(II)Z" } : Jvm.MethodName) prog_165_method_3_code (6 : Nat) (Option.some Jvm.ClassFile.FieldType.boolean)).before args0 about1 = true := code_word (m := ⟨3, 2⟩) (meth := k3m2) (c := k3c2) (by decide +kernel) rfl rfl rfl (by decide +kernel)
set_option maxRecDepth 65536 in
theorem w_c7 : (Jvm.Cond.code ({ cls := "com/example/joinweave/joinweave/graph/UnionFind", name := "find", desc := "(I)I" } : Jvm.MethodName) prog_165_method_2_code (3 : Nat) (Option.some Jvm.ClassFile.FieldType.int)).before args0 about1 = true := code_word (m := ⟨3, 1⟩) (meth := k3m1) (c := k3c1) (by decide +kernel) rfl rfl rfl (by decide +kernel)
set_option maxRecDepth 65536 in
theorem w_c8 : (Jvm.Cond.code ({ cls := "com/example/joinweave/joinweave/graph/UnionFind", name := "undo", desc := "()V" } : Jvm.MethodName) prog_165_method_4_code (2 : Nat) (Option.none : Option Jvm.ClassFile.FieldType)).before args0 about1 = true := code_word (m := ⟨3, 3⟩) (meth := k3m3) (c := k3c3) (by decide +kernel) rfl rfl rfl (by decide +kernel)
set_option maxRecDepth 65536 in
theorem w_c9 : (Jvm.Cond.code ({ cls := "com/example/joinweave/joinweave/graph/CoreTrees", name := "first", desc := "()V" } : Jvm.MethodName) prog_138_method_2_code (1 : Nat) (Option.none : Option Jvm.ClassFile.FieldType)).before args0 about1 = true := code_word (m := ⟨2, 1⟩) (meth := k2m1) (c := k2c1) (by decide +kernel) rfl rfl rfl (by decide +kernel)
set_option maxRecDepth 65536 in
theorem w_c10 : (Jvm.Cond.code ({ cls := "com/example/joinweave/joinweave/graph/CoreTrees", name := "takeFrom", desc := "(I)V" } : Jvm.MethodName) prog_138_method_6_code (3 : Nat) (Option.none : Option Jvm.ClassFile.FieldType)).before args0 about1 = true := code_word (m := ⟨2, 5⟩) (meth := k2m5) (c := k2c5) (by decide +kernel) rfl rfl rfl (by decide +kernel)
set_option maxRecDepth 65536 in
theorem w_c11 : (Jvm.Cond.code ({ cls := "com/example/joinweave/joinweave/graph/CoreTrees", name := "next", desc := "()Z" } : Jvm.MethodName) prog_138_method_3_code (2 : Nat) (Option.some Jvm.ClassFile.FieldType.boolean)).before args0 about1 = true := code_word (m := ⟨2, 2⟩) (meth := k2m2) (c := k2c2) (by decide +kernel) rfl rfl rfl (by decide +kernel)
set_option maxRecDepth 65536 in
theorem w_c12 : (Jvm.Cond.code ({ cls := "com/example/joinweave/joinweave/graph/CoreTrees", name := "canLeave", desc := "(I)Z" } : Jvm.MethodName) prog_138_method_7_code (5 : Nat) (Option.some Jvm.ClassFile.FieldType.boolean)).before args0 about1 = true := code_word (m := ⟨2, 6⟩) (meth := k2m6) (c := k2c6) (by decide +kernel) rfl rfl rfl (by decide +kernel)
set_option maxRecDepth 65536 in
theorem w_c13 : (Jvm.Cond.code ({ cls := "com/example/joinweave/joinweave/graph/UnionFind", name := "sets", desc := "()I" } : Jvm.MethodName) prog_165_method_5_code (1 : Nat) (Option.some Jvm.ClassFile.FieldType.int)).before args0 about1 = true := code_word (m := ⟨3, 4⟩) (meth := k3m4) (c := k3c4) (by decide +kernel) rfl rfl rfl (by decide +kernel)
set_option maxRecDepth 65536 in
theorem w_c14 : (Jvm.Cond.code ({ cls := "com/example/joinweave/joinweave/graph/CoreTrees", name := "taken", desc := "(I)Z" } : Jvm.MethodName) prog_138_method_4_code (3 : Nat) (Option.some Jvm.ClassFile.FieldType.boolean)).before args0 about1 = true := code_word (m := ⟨2, 3⟩) (meth := k2m3) (c := k2c3) (by decide +kernel) rfl rfl rfl (by decide +kernel)
set_option maxRecDepth 65536 in
theorem w_c15 : (Jvm.Cond.code ({ cls := "com/example/joinweave/joinweave/graph/CoreTrees", name := "copyTo", desc := "([II)I" } : Jvm.MethodName) prog_138_method_5_code (3 : Nat) (Option.some Jvm.ClassFile.FieldType.int)).before args0 about1 = true := code_word (m := ⟨2, 4⟩) (meth := k2m4) (c := k2c4) (by decide +kernel) rfl rfl rfl (by decide +kernel)
set_option maxRecDepth 65536 in
theorem w_c16 : (Jvm.Cond.code ({ cls := "com/example/joinweave/joinweave/graph/CoreTreesTakenPinLaw", name := "bit", desc := "(ZI)I" } : Jvm.MethodName) method_5_code (2 : Nat) (Option.some Jvm.ClassFile.FieldType.int)).before args0 about1 = true := code_word (m := ⟨1, 4⟩) (meth := k1m4) (c := k1c4) (by decide +kernel) rfl rfl rfl (by decide +kernel)
set_option maxRecDepth 65536 in
theorem w_c17 : (Jvm.Cond.code ({ cls := "com/example/joinweave/joinweave/graph/CoreTreesTakenPinLaw", name := "agree", desc := "(Z[II)Z" } : Jvm.MethodName) method_4_code (3 : Nat) (Option.some Jvm.ClassFile.FieldType.boolean)).before args0 about1 = true := code_word (m := ⟨1, 3⟩) (meth := k1m3) (c := k1c3) (by decide +kernel) rfl rfl rfl (by decide +kernel)
def codes1 : List Jvm.Cond := [Jvm.Cond.code x code maxLocals ret, Jvm.Cond.code ({ cls := "com/example/joinweave/joinweave/graph/CoreTreesTakenPinLaw", name := "fill", desc := "([I[I[IIII)I" } : Jvm.MethodName) method_3_code (10 : Nat) (Option.some Jvm.ClassFile.FieldType.int), Jvm.Cond.code ({ cls := "com/example/joinweave/joinweave/graph/CoreTrees", name := "<init>", desc := "(I[I[I[I)V" } : Jvm.MethodName) prog_138_method_1_code (10 : Nat) (Option.none : Option Jvm.ClassFile.FieldType), Jvm.Cond.code ({ cls := "java/lang/Object", name := "<init>", desc := "()V" } : Jvm.MethodName) object_method_1_code (1 : Nat) (Option.none : Option Jvm.ClassFile.FieldType), Jvm.Cond.code ({ cls := "com/example/joinweave/joinweave/graph/UnionFind", name := "<init>", desc := "(I)V" } : Jvm.MethodName) prog_165_method_1_code (3 : Nat) (Option.none : Option Jvm.ClassFile.FieldType), Jvm.Cond.code ({ cls := "java/lang/Math", name := "max", desc := "(II)I" } : Jvm.MethodName) jdk_29_method_65_code (2 : Nat) (Option.some Jvm.ClassFile.FieldType.int), Jvm.Cond.code ({ cls := "com/example/joinweave/joinweave/graph/UnionFind", name := "union", desc := "(II)Z" } : Jvm.MethodName) prog_165_method_3_code (6 : Nat) (Option.some Jvm.ClassFile.FieldType.boolean), Jvm.Cond.code ({ cls := "com/example/joinweave/joinweave/graph/UnionFind", name := "find", desc := "(I)I" } : Jvm.MethodName) prog_165_method_2_code (3 : Nat) (Option.some Jvm.ClassFile.FieldType.int), Jvm.Cond.code ({ cls := "com/example/joinweave/joinweave/graph/UnionFind", name := "undo", desc := "()V" } : Jvm.MethodName) prog_165_method_4_code (2 : Nat) (Option.none : Option Jvm.ClassFile.FieldType), Jvm.Cond.code ({ cls := "com/example/joinweave/joinweave/graph/CoreTrees", name := "first", desc := "()V" } : Jvm.MethodName) prog_138_method_2_code (1 : Nat) (Option.none : Option Jvm.ClassFile.FieldType), Jvm.Cond.code ({ cls := "com/example/joinweave/joinweave/graph/CoreTrees", name := "takeFrom", desc := "(I)V" } : Jvm.MethodName) prog_138_method_6_code (3 : Nat) (Option.none : Option Jvm.ClassFile.FieldType), Jvm.Cond.code ({ cls := "com/example/joinweave/joinweave/graph/CoreTrees", name := "next", desc := "()Z" } : Jvm.MethodName) prog_138_method_3_code (2 : Nat) (Option.some Jvm.ClassFile.FieldType.boolean), Jvm.Cond.code ({ cls := "com/example/joinweave/joinweave/graph/CoreTrees", name := "canLeave", desc := "(I)Z" } : Jvm.MethodName) prog_138_method_7_code (5 : Nat) (Option.some Jvm.ClassFile.FieldType.boolean), Jvm.Cond.code ({ cls := "com/example/joinweave/joinweave/graph/UnionFind", name := "sets", desc := "()I" } : Jvm.MethodName) prog_165_method_5_code (1 : Nat) (Option.some Jvm.ClassFile.FieldType.int), Jvm.Cond.code ({ cls := "com/example/joinweave/joinweave/graph/CoreTrees", name := "taken", desc := "(I)Z" } : Jvm.MethodName) prog_138_method_4_code (3 : Nat) (Option.some Jvm.ClassFile.FieldType.boolean), Jvm.Cond.code ({ cls := "com/example/joinweave/joinweave/graph/CoreTrees", name := "copyTo", desc := "([II)I" } : Jvm.MethodName) prog_138_method_5_code (3 : Nat) (Option.some Jvm.ClassFile.FieldType.int), Jvm.Cond.code ({ cls := "com/example/joinweave/joinweave/graph/CoreTreesTakenPinLaw", name := "bit", desc := "(ZI)I" } : Jvm.MethodName) method_5_code (2 : Nat) (Option.some Jvm.ClassFile.FieldType.int), Jvm.Cond.code ({ cls := "com/example/joinweave/joinweave/graph/CoreTreesTakenPinLaw", name := "agree", desc := "(Z[II)Z" } : Jvm.MethodName) method_4_code (3 : Nat) (Option.some Jvm.ClassFile.FieldType.boolean)]
set_option maxRecDepth 65536 in
theorem codes_eq : words1.filter isCode = codes1 := rfl
theorem w_codes : ∀ c ∈ words1.filter isCode, c.before args0 about1 = true := by
  rw [codes_eq]
  intro c hc
  simp only [codes1, List.mem_cons, List.not_mem_nil, or_false] at hc
  rcases hc with rfl | rfl | rfl | rfl | rfl | rfl | rfl | rfl | rfl | rfl | rfl | rfl | rfl | rfl | rfl | rfl | rfl | rfl
  · exact w_c0
  · exact w_c1
  · exact w_c2
  · exact w_c3
  · exact w_c4
  · exact w_c5
  · exact w_c6
  · exact w_c7
  · exact w_c8
  · exact w_c9
  · exact w_c10
  · exact w_c11
  · exact w_c12
  · exact w_c13
  · exact w_c14
  · exact w_c15
  · exact w_c16
  · exact w_c17
set_option maxRecDepth 65536 in
theorem w_t1 : (words1.take 24).all (fun c => isCode c || c.before args0 about1) = true := by decide +kernel
set_option maxRecDepth 65536 in
theorem w_t2 : ((words1.drop 24).take 24).all (fun c => isCode c || c.before args0 about1) = true := by decide +kernel
set_option maxRecDepth 65536 in
theorem w_t3 : (((words1.drop 24).drop 24).take 24).all (fun c => isCode c || c.before args0 about1) = true := by decide +kernel
set_option maxRecDepth 65536 in
theorem w_t4 : ((((words1.drop 24).drop 24).drop 24).take 24).all (fun c => isCode c || c.before args0 about1) = true := by decide +kernel
set_option maxRecDepth 65536 in
theorem w_t5 : ((((words1.drop 24).drop 24).drop 24).drop 24).all (fun c => isCode c || c.before args0 about1) = true := by decide +kernel
theorem w_tables : (allAtoms (Jvm.Cond.code x code maxLocals ret :: tables_1)).before args0 about1 = true := by
  rw [allAtoms_all]
  show words1.all (fun c => c.before args0 about1) = true
  refine all_split ?_ w_codes
  rw [← List.take_append_drop 24 words1, List.all_append, w_t1, ← List.take_append_drop 24 (words1.drop 24), List.all_append, w_t2, ← List.take_append_drop 24 ((words1.drop 24).drop 24), List.all_append, w_t3, ← List.take_append_drop 24 (((words1.drop 24).drop 24).drop 24), List.all_append, w_t4, w_t5]
  rfl
set_option maxRecDepth 65536 in
theorem w_case : (Jvm.Cond.and given_1 narrow_1).before args0 about1 = true := by decide +kernel
theorem w_applies : (headSpec (Jvm.Cond.code x code maxLocals ret :: tables_1) room_1).applies x e0.platform about1 = true :=
  (Spec.applies_iff w_frames).mpr ⟨w_running, w_runnable, w_alone, w_named, w_hears, w_ripe, w_room, w_tables⟩
theorem atStart : AtStart classFile x code maxLocals ret World_1 tables_1 room_1 Calls_1 rest_1 Pre_1 launch0 p0 e0 about1 theMethod args0 below0 :=
  ⟨lists_1, trivial, launch0.admits_env _ _ _, launch0.least_env, fairChoices_fair.cas, fairChoices_fair.clock, w_frames, w_args, w_heap, w_applies, trivial, trivial, w_case⟩
end start1
theorem witness_1 : WitnessClaimed_1 := ⟨start1.p0, start1.e0, start1.about1, start1.theMethod, start1.args0, start1.below0, start1.atStart⟩
end Jvm.Pilot.@@N@@
