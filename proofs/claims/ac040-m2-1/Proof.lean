import JvmDerived
import JvmDerived.Pilot.@@N@@Statement
import JvmDerived.Pilot.@@N@@Code
set_option linter.unusedVariables false
set_option linter.unusedSimpArgs false
namespace Jvm.Pilot.@@N@@
open Jvm Jvm.ClassFile Sem Op Lib Jvm.Free Jvm.Stand Jvm.LawKit Jvm.RoadKit Bundle Jvm.Pilot.@@N@@.Jvm.D
/-! own_: what is left of a walk, read forwards -/
def own_WP (p : Program) (e : Env) (below : List Frame) (s : State) (Q : Option Value → Heap → List Loc → Prop) (k n : Nat) (a : State) : Prop :=
  ∃ s₂ o, Steps p.tables e below a s₂ ∧ s₂.status = .running ∧ Ended s₂ below o ∧ ∃ v L, o = .returned v ∧ Q v s₂.heap L ∧ FrameEnd s o s₂ L k n
def own_Con (l : Launch) (Z : State) (y : MethodName) (bytes : ByteArray) (maxL : Nat) (ret : Option FieldType) (rm : Room) (as' : Array Value) (h0 : Heap) (Q : Option Value → Heap → List Loc → Prop) : Prop :=
  ∀ ws, MetFree l y (head1 (Jvm.Cond.code y bytes maxL ret :: ws) rm) (fun a U => a = as' ∧ Z.Warmed39 U.vm ∧ U.heap = h0) (fun _ _ _ _ _ => True) (fun _ U o U' => ∃ v L, o = .returned v ∧ Q v U'.heap L ∧ FrameEnd U o U' L rm.cells rm.slots)
theorem own_Con_of {l : Launch} {Z : State} {y : MethodName} {bytes : ByteArray} {maxL : Nat} {ret : Option FieldType} {rm : Room} {as' : Array Value} {h0 : Heap} {Q : Option Value → Heap → List Loc → Prop} (hp : plainFor y = true)
    (hb : ∀ (p : Program) (e : Env) (s : State) (m : MethodId) (below : List Frame) (meth : Method) (c : Code) (s₁ : State), Stand p l e rm s m as' below meth c s₁ [] 0 0 → p.tables.exec = Jvm.exec → c.code = bytes → c.maxLocals = maxL → meth.sig.returnType = ret → meth.locks = false → meth.name = y.name → s.vm.findClass y.cls = some m.cls → Z.Warmed39 s.vm → s₁.heap = h0 →
      own_WP p e below s Q rm.cells rm.slots (s₁.setTop (entryFrame m as' maxL))) : own_Con l Z y bytes maxL ret rm as' h0 Q := by
  intro ws
  refine MetFree.of_bodySF hp hisR ?_
  intro p e s m args below meth c s₁ Bd hml0 hP hK
  obtain ⟨rfl, hZ, hh⟩ := hP
  exact hb p e s m below meth c s₁ (Stand.of_body Bd) Bd.exec Bd.bytes hml0 Bd.returns Bd.notSynchronized (name_of_methodNamed Bd.named Bd.method).1 (findClass_of_methodNamed Bd.named) hZ (by rw [← hh, Bd.state]; rfl)
theorem own_Con_mono {l : Launch} {Z : State} {y : MethodName} {bytes : ByteArray} {maxL : Nat} {ret : Option FieldType} {rm : Room} {as' : Array Value} {h0 : Heap} {Q Q' : Option Value → Heap → List Loc → Prop} (C : own_Con l Z y bytes maxL ret rm as' h0 Q) (hq : ∀ v h L, Q v h L → Q' v h L) : own_Con l Z y bytes maxL ret rm as' h0 Q' := by
  intro ws p e ha hc hk s m args below hf happ hP hK
  obtain ⟨n, o, h1, h2, h3, v, L, h4, h5, h6⟩ := C ws p e ha hc hk s m args below hf happ hP hK
  exact ⟨n, o, h1, h2, h3, v, L, h4, hq _ _ _ h5, h6⟩
theorem own_w {Z : State} {a0 : Array Value} {ts : List Jvm.Cond} {d : Jvm.Cond} (hw : ∀ d ∈ ts, d.before a0 Z = true) (i : Nat) (hi : ts[i]? = some d) : d.before a0 Z = true := hw _ (List.mem_of_getElem? hi)
section OwnWP
variable {p : Program} {l : Launch} {e : Env} {R : Room} {s : State} {m : MethodId} {args : Array Value} {below : List Frame} {meth : Method} {c : Code} {T : State} {locs : List Loc} {cells slots : Nat} {Z : State} {a0 : Array Value} {h : Heap} {Q : Option Value → Heap → List Loc → Prop} {k n : Nat} {a a' : State} {pc pc' : Nat} {ls l' : Array Slot} {rest : List Value}
theorem own_of (hs : ∀ t, Steps p.tables e below a' t → Steps p.tables e below a t) (w : own_WP p e below s Q k n a') : own_WP p e below s Q k n a := by
  obtain ⟨s₂, o, st, r⟩ := w
  exact ⟨s₂, o, hs _ st, r⟩
theorem own_mono {Q' : Option Value → Heap → List Loc → Prop} (hq : ∀ v h L, Q v h L → Q' v h L) (w : own_WP p e below s Q k n a) : own_WP p e below s Q' k n a := by
  obtain ⟨s₂, o, h1, h2, h3, v, L, h4, h5, h6⟩ := w
  exact ⟨s₂, o, h1, h2, h3, v, L, h4, hq _ _ _ h5, h6⟩
theorem own_join {α : Type} (P : α → Prop) (f : α → State) (h1 : (∀ x, P x → own_WP p e below s Q k n (f x)) → own_WP p e below s Q k n a) (h2 : ∀ x, P x → own_WP p e below s Q k n (f x)) : own_WP p e below s Q k n a := h1 h2
theorem own_done (X : Stand p l e R s m args below meth c T locs cells slots) {v : Option Value} (hlk : meth.locks = false) (hv : meth.sig.returnType = none → v = none) (hc : cells ≤ k) (hn : slots ≤ n) (hq : Q v T.heap locs)
    (st : ∀ fs, (∀ (f : JFrame) (acts : List Action), f.method = m → f.locked = none → f.entered = [] → (doReturn e (T.setTop f) acts v).1 = T.setFrames fs) → Steps p.tables e below a (T.setFrames fs)) : own_WP p e below s Q k n a := by
  obtain ⟨fs, hr, hrun, hended, hW, hsame⟩ := X.leave hv hlk
  exact ⟨_, _, st fs hr, hrun, hended, _, _, rfl, hq, ⟨_, rfl⟩, hW, hsame.mono hc hn⟩
theorem own_retI (X : Stand p l e R s m args below meth c T locs cells slots) (hx : p.tables.exec = Jvm.exec) (hlk : meth.locks = false) (hret : meth.sig.returnType = some .int) {z : Int32} (hd : decode c.code pc = .ok (.ireturn, 1)) (hc : cells ≤ k) (hn : slots ≤ n) (hq : Q (some (.int z)) T.heap locs) : own_WP p e below s Q k n (T.setTop (mkF m pc ls (.int z :: rest))) :=
  own_done X hlk (fun q => by rw [hret] at q; cases q) hc hn hq fun fs hr => retOut X hx hret rfl (Or.inl ⟨rfl, Or.inl rfl, z, rfl⟩) hd hr
theorem own_retN (X : Stand p l e R s m args below meth c T locs cells slots) (hx : p.tables.exec = Jvm.exec) (hlk : meth.locks = false) {t : FieldType} (ht : t = .boolean ∨ t = .byte ∨ t = .char ∨ t = .short) (hret : meth.sig.returnType = some t) {z : Int32} (hd : decode c.code pc = .ok (.ireturn, 1)) (hc : cells ≤ k) (hn : slots ≤ n) (hq : Q (some (.int (nar t z))) T.heap locs) : own_WP p e below s Q k n (T.setTop (mkF m pc ls (.int z :: rest))) :=
  own_done X hlk (fun q => by rw [hret] at q; cases q) hc hn hq fun fs hr => retN X hx hret ht hd hr
theorem own_retJ (X : Stand p l e R s m args below meth c T locs cells slots) (hx : p.tables.exec = Jvm.exec) (hlk : meth.locks = false) (hret : meth.sig.returnType = some .long) {z : Int64} (hd : decode c.code pc = .ok (.lreturn, 1)) (hc : cells ≤ k) (hn : slots ≤ n) (hq : Q (some (.long z)) T.heap locs) : own_WP p e below s Q k n (T.setTop (mkF m pc ls (.long z :: rest))) :=
  own_done X hlk (fun q => by rw [hret] at q; cases q) hc hn hq fun fs hr => retOut X hx hret rfl (Or.inr (Or.inl ⟨rfl, rfl, z, rfl⟩)) hd hr
theorem own_retA (X : Stand p l e R s m args below meth c T locs cells slots) (hx : p.tables.exec = Jvm.exec) (hlk : meth.locks = false) {t : FieldType} (ht : t.isReference = true) (hret : meth.sig.returnType = some t) {w : Value} (hw : w.isRef = true) (hnw : narrow t w = w) (hd : decode c.code pc = .ok (.areturn, 1)) (hc : cells ≤ k) (hn : slots ≤ n) (hq : Q (some w) T.heap locs) : own_WP p e below s Q k n (T.setTop (mkF m pc ls (w :: rest))) :=
  own_done X hlk (fun q => by rw [hret] at q; cases q) hc hn hq fun fs hr => retOut X hx hret hnw (Or.inr (Or.inr (Or.inr (Or.inr ⟨rfl, ht, hw⟩)))) hd hr
theorem own_ret0 (X : Stand p l e R s m args below meth c T locs cells slots) (hx : p.tables.exec = Jvm.exec) (hlk : meth.locks = false) (hret : meth.sig.returnType = none) (hd : decode c.code pc = .ok (.return_, 1)) (hc : cells ≤ k) (hn : slots ≤ n) (hq : Q none T.heap locs) : own_WP p e below s Q k n (T.setTop (mkF m pc ls [])) :=
  own_done X hlk (fun _ => rfl) hc hn hq fun fs hr => X.returnOut hx hret hd hr
theorem own_iload (X : Stand p l e R s m args below meth c T locs cells slots) (hx : p.tables.exec = Jvm.exec) {j : Nat} {v : Int32} (hd : decode c.code pc = .ok (.iload j, 2)) (hl : ls[j]? = some (.val (.int v))) (hpc : pc + 2 = pc') (w : own_WP p e below s Q k n (T.setTop (mkF m pc' ls (.int v :: rest)))) : own_WP p e below s Q k n (T.setTop (mkF m pc ls rest)) := by
  subst hpc
  exact own_of (fun t q => XS.iload X.here hx rfl hd hl q) w
theorem own_iloadN (X : Stand p l e R s m args below meth c T locs cells slots) (hx : p.tables.exec = Jvm.exec) {j : Fin 4} {v : Int32} (hd : decode c.code pc = .ok (.iload_n j, 1)) (hl : ls[j.val]? = some (.val (.int v))) (hpc : pc + 1 = pc') (w : own_WP p e below s Q k n (T.setTop (mkF m pc' ls (.int v :: rest)))) : own_WP p e below s Q k n (T.setTop (mkF m pc ls rest)) := by
  subst hpc
  exact own_of (fun t q => XS.iloadN X.here hx rfl hd hl q) w
theorem own_lload (X : Stand p l e R s m args below meth c T locs cells slots) (hx : p.tables.exec = Jvm.exec) {j : Nat} {v : Int64} (hd : decode c.code pc = .ok (.lload j, 2)) (hl : ls[j]? = some (.val (.long v))) (hpc : pc + 2 = pc') (w : own_WP p e below s Q k n (T.setTop (mkF m pc' ls (.long v :: rest)))) : own_WP p e below s Q k n (T.setTop (mkF m pc ls rest)) := by
  subst hpc
  exact own_of (fun t q => XS.lload X.here hx rfl hd hl q) w
theorem own_lloadN (X : Stand p l e R s m args below meth c T locs cells slots) (hx : p.tables.exec = Jvm.exec) {j : Fin 4} {v : Int64} (hd : decode c.code pc = .ok (.lload_n j, 1)) (hl : ls[j.val]? = some (.val (.long v))) (hpc : pc + 1 = pc') (w : own_WP p e below s Q k n (T.setTop (mkF m pc' ls (.long v :: rest)))) : own_WP p e below s Q k n (T.setTop (mkF m pc ls rest)) := by
  subst hpc
  exact own_of (fun t q => XS.lloadN X.here hx rfl hd hl q) w
theorem own_aload (X : Stand p l e R s m args below meth c T locs cells slots) (hx : p.tables.exec = Jvm.exec) {j : Nat} {v : Value} (hd : decode c.code pc = .ok (.aload j, 2)) (hl : ls[j]? = some (.val v)) (hv : v.isRef = true) (hpc : pc + 2 = pc') (w : own_WP p e below s Q k n (T.setTop (mkF m pc' ls (v :: rest)))) : own_WP p e below s Q k n (T.setTop (mkF m pc ls rest)) := by
  subst hpc
  exact own_of (fun t q => XS.aload X.here hx rfl hd hl hv q) w
theorem own_aloadN (X : Stand p l e R s m args below meth c T locs cells slots) (hx : p.tables.exec = Jvm.exec) {j : Fin 4} {v : Value} (hd : decode c.code pc = .ok (.aload_n j, 1)) (hl : ls[j.val]? = some (.val v)) (hv : v.isRef = true) (hpc : pc + 1 = pc') (w : own_WP p e below s Q k n (T.setTop (mkF m pc' ls (v :: rest)))) : own_WP p e below s Q k n (T.setTop (mkF m pc ls rest)) := by
  subst hpc
  exact own_of (fun t q => XS.aloadN X.here hx rfl hd hl hv q) w
theorem own_istore (X : Stand p l e R s m args below meth c T locs cells slots) (hx : p.tables.exec = Jvm.exec) {j : Nat} {v z : Int32} (hd : decode c.code pc = .ok (.istore j, 2)) (hz : z = v) (hl : storeLocals ls j (.int z) = some l') (hpc : pc + 2 = pc') (w : own_WP p e below s Q k n (T.setTop (mkF m pc' l' rest))) : own_WP p e below s Q k n (T.setTop (mkF m pc ls (.int v :: rest))) := by
  subst hpc
  exact own_of (fun t q => XS.istore X.here hx rfl hd rfl (hz ▸ hl) q) w
theorem own_istoreN (X : Stand p l e R s m args below meth c T locs cells slots) (hx : p.tables.exec = Jvm.exec) {j : Fin 4} {v z : Int32} (hd : decode c.code pc = .ok (.istore_n j, 1)) (hz : z = v) (hl : storeLocals ls j.val (.int z) = some l') (hpc : pc + 1 = pc') (w : own_WP p e below s Q k n (T.setTop (mkF m pc' l' rest))) : own_WP p e below s Q k n (T.setTop (mkF m pc ls (.int v :: rest))) := by
  subst hpc
  exact own_of (fun t q => XS.istoreN X.here hx rfl hd rfl (hz ▸ hl) q) w
theorem own_lstore (X : Stand p l e R s m args below meth c T locs cells slots) (hx : p.tables.exec = Jvm.exec) {j : Nat} {v z : Int64} (hd : decode c.code pc = .ok (.lstore j, 2)) (hz : z = v) (hl : storeLocals ls j (.long z) = some l') (hpc : pc + 2 = pc') (w : own_WP p e below s Q k n (T.setTop (mkF m pc' l' rest))) : own_WP p e below s Q k n (T.setTop (mkF m pc ls (.long v :: rest))) := by
  subst hpc
  exact own_of (fun t q => XS.lstore X.here hx rfl hd rfl (hz ▸ hl) q) w
theorem own_lstoreN (X : Stand p l e R s m args below meth c T locs cells slots) (hx : p.tables.exec = Jvm.exec) {j : Fin 4} {v z : Int64} (hd : decode c.code pc = .ok (.lstore_n j, 1)) (hz : z = v) (hl : storeLocals ls j.val (.long z) = some l') (hpc : pc + 1 = pc') (w : own_WP p e below s Q k n (T.setTop (mkF m pc' l' rest))) : own_WP p e below s Q k n (T.setTop (mkF m pc ls (.long v :: rest))) := by
  subst hpc
  exact own_of (fun t q => XS.lstoreN X.here hx rfl hd rfl (hz ▸ hl) q) w
theorem own_astore (X : Stand p l e R s m args below meth c T locs cells slots) (hx : p.tables.exec = Jvm.exec) {j : Nat} {v : Value} (hd : decode c.code pc = .ok (.astore j, 2)) (hv : v.isRef = true) (hl : storeLocals ls j v = some l') (hpc : pc + 2 = pc') (w : own_WP p e below s Q k n (T.setTop (mkF m pc' l' rest))) : own_WP p e below s Q k n (T.setTop (mkF m pc ls (v :: rest))) := by
  subst hpc
  exact own_of (fun t q => XS.astore X.here hx rfl hd rfl hv hl q) w
theorem own_astoreN (X : Stand p l e R s m args below meth c T locs cells slots) (hx : p.tables.exec = Jvm.exec) {j : Fin 4} {v : Value} (hd : decode c.code pc = .ok (.astore_n j, 1)) (hv : v.isRef = true) (hl : storeLocals ls j.val v = some l') (hpc : pc + 1 = pc') (w : own_WP p e below s Q k n (T.setTop (mkF m pc' l' rest))) : own_WP p e below s Q k n (T.setTop (mkF m pc ls (v :: rest))) := by
  subst hpc
  exact own_of (fun t q => XS.astoreN X.here hx rfl hd rfl hv hl q) w
theorem own_iinc (X : Stand p l e R s m args below meth c T locs cells slots) (hx : p.tables.exec = Jvm.exec) {j : Nat} {i : Int} {v z : Int32} (hd : decode c.code pc = .ok (.iinc j i, 3)) (hl0 : ls[j]? = some (.val (.int v))) (hz : z = v + Int32.ofInt i) (hl : storeLocals ls j (.int z) = some l') (hpc : pc + 3 = pc') (w : own_WP p e below s Q k n (T.setTop (mkF m pc' l' rest))) : own_WP p e below s Q k n (T.setTop (mkF m pc ls rest)) := by
  subst hpc
  exact own_of (fun t q => XS.iinc X.here hx rfl hd hl0 (hz ▸ hl) q) w
theorem own_iconst (X : Stand p l e R s m args below meth c T locs cells slots) (hx : p.tables.exec = Jvm.exec) {i : Int} (v : Int32) (hd : decode c.code pc = .ok (.iconst i, 1)) (hv : v = Int32.ofInt i) (hpc : pc + 1 = pc') (w : own_WP p e below s Q k n (T.setTop (mkF m pc' ls (.int v :: rest)))) : own_WP p e below s Q k n (T.setTop (mkF m pc ls rest)) := by
  subst hpc
  exact own_of (fun t q => XS.iconst X.here hx rfl hd (hv ▸ q)) w
theorem own_bipush (X : Stand p l e R s m args below meth c T locs cells slots) (hx : p.tables.exec = Jvm.exec) {i : Int} (v : Int32) (hd : decode c.code pc = .ok (.bipush i, 2)) (hv : v = (Int8.ofInt i).toInt32) (hpc : pc + 2 = pc') (w : own_WP p e below s Q k n (T.setTop (mkF m pc' ls (.int v :: rest)))) : own_WP p e below s Q k n (T.setTop (mkF m pc ls rest)) := by
  subst hpc
  exact own_of (fun t q => XS.bipush X.here hx rfl hd (hv ▸ q)) w
theorem own_sipush (X : Stand p l e R s m args below meth c T locs cells slots) (hx : p.tables.exec = Jvm.exec) {i : Int} (v : Int32) (hd : decode c.code pc = .ok (.sipush i, 3)) (hv : v = (Int16.ofInt i).toInt32) (hpc : pc + 3 = pc') (w : own_WP p e below s Q k n (T.setTop (mkF m pc' ls (.int v :: rest)))) : own_WP p e below s Q k n (T.setTop (mkF m pc ls rest)) := by
  subst hpc
  exact own_of (fun t q => XS.sipush X.here hx rfl hd (hv ▸ q)) w
theorem own_anull (X : Stand p l e R s m args below meth c T locs cells slots) (hx : p.tables.exec = Jvm.exec)  (hd : decode c.code pc = .ok (.aconst_null, 1)) (hpc : pc + 1 = pc') (w : own_WP p e below s Q k n (T.setTop (mkF m pc' ls (.null :: rest)))) : own_WP p e below s Q k n (T.setTop (mkF m pc ls rest)) := by
  subst hpc
  exact own_of (fun t q => XS.aconstNull X.here hx rfl hd q) w
theorem own_lconst0 (X : Stand p l e R s m args below meth c T locs cells slots) (hx : p.tables.exec = Jvm.exec)  (hd : decode c.code pc = .ok (.lconst 0, 1)) (hpc : pc + 1 = pc') (w : own_WP p e below s Q k n (T.setTop (mkF m pc' ls (.long 0 :: rest)))) : own_WP p e below s Q k n (T.setTop (mkF m pc ls rest)) := by
  subst hpc
  exact own_of (fun t q => XS.lconst X.here hx rfl hd q) w
theorem own_lconst1 (X : Stand p l e R s m args below meth c T locs cells slots) (hx : p.tables.exec = Jvm.exec)  (hd : decode c.code pc = .ok (.lconst 1, 1)) (hpc : pc + 1 = pc') (w : own_WP p e below s Q k n (T.setTop (mkF m pc' ls (.long 1 :: rest)))) : own_WP p e below s Q k n (T.setTop (mkF m pc ls rest)) := by
  subst hpc
  exact own_of (fun t q => XS.lconst X.here hx rfl hd q) w
theorem own_ldcInt (X : Stand p l e R s m args below meth c T locs cells slots) (hx : p.tables.exec = Jvm.exec) (hZ : Z.Warmed39 s.vm) {own : String} {idx : Nat} {v : Int32} (hown : s.vm.findClass own = some m.cls) (w1 : (Jvm.Cond.constant own idx v).before a0 Z = true) (hd : decode c.code pc = .ok (.ldc idx, 2)) (hpc : pc + 2 = pc') (w : own_WP p e below s Q k n (T.setTop (mkF m pc' ls (.int v :: rest)))) : own_WP p e below s Q k n (T.setTop (mkF m pc ls rest)) := by
  subst hpc
  exact own_of (fun t q => X.ldcInt hx hown (mvT hZ w1) (g := mkF m pc ls rest) rfl hd _ q) w
theorem own_ldcwInt (X : Stand p l e R s m args below meth c T locs cells slots) (hx : p.tables.exec = Jvm.exec) (hZ : Z.Warmed39 s.vm) {own : String} {idx : Nat} {v : Int32} (hown : s.vm.findClass own = some m.cls) (w1 : (Jvm.Cond.constant own idx v).before a0 Z = true) (hd : decode c.code pc = .ok (.ldc_w idx, 3)) (hpc : pc + 3 = pc') (w : own_WP p e below s Q k n (T.setTop (mkF m pc' ls (.int v :: rest)))) : own_WP p e below s Q k n (T.setTop (mkF m pc ls rest)) := by
  subst hpc
  exact own_of (fun t q => X.ldcwInt hx hown (mvT hZ w1) (g := mkF m pc ls rest) rfl hd _ q) w
theorem own_ldc2Long (X : Stand p l e R s m args below meth c T locs cells slots) (hx : p.tables.exec = Jvm.exec) (hZ : Z.Warmed39 s.vm) {own : String} {idx : Nat} {v : Int64} (hown : s.vm.findClass own = some m.cls) (w1 : (Jvm.Cond.constantLong own idx v).before a0 Z = true) (hd : decode c.code pc = .ok (.ldc2_w idx, 3)) (hpc : pc + 3 = pc') (w : own_WP p e below s Q k n (T.setTop (mkF m pc' ls (.long v :: rest)))) : own_WP p e below s Q k n (T.setTop (mkF m pc ls rest)) := by
  subst hpc
  exact own_of (fun t q => X.ldc2Long hx hown (mvT hZ w1) (g := mkF m pc ls rest) rfl hd _ q) w
theorem own_iadd (X : Stand p l e R s m args below meth c T locs cells slots) (hx : p.tables.exec = Jvm.exec) {x y : Int32} (hd : decode c.code pc = .ok (.iadd, 1)) (hpc : pc + 1 = pc') (w : own_WP p e below s Q k n (T.setTop (mkF m pc' ls (.int (x + y) :: rest)))) : own_WP p e below s Q k n (T.setTop (mkF m pc ls (.int y :: .int x :: rest))) := by
  subst hpc
  exact own_of (fun t q => XS.iadd X.here hx rfl hd rfl q) w
theorem own_ladd (X : Stand p l e R s m args below meth c T locs cells slots) (hx : p.tables.exec = Jvm.exec) {x y : Int64} (hd : decode c.code pc = .ok (.ladd, 1)) (hpc : pc + 1 = pc') (w : own_WP p e below s Q k n (T.setTop (mkF m pc' ls (.long (x + y) :: rest)))) : own_WP p e below s Q k n (T.setTop (mkF m pc ls (.long y :: .long x :: rest))) := by
  subst hpc
  exact own_of (fun t q => XS.ladd X.here hx rfl hd rfl q) w
theorem own_isub (X : Stand p l e R s m args below meth c T locs cells slots) (hx : p.tables.exec = Jvm.exec) {x y : Int32} (hd : decode c.code pc = .ok (.isub, 1)) (hpc : pc + 1 = pc') (w : own_WP p e below s Q k n (T.setTop (mkF m pc' ls (.int (x - y) :: rest)))) : own_WP p e below s Q k n (T.setTop (mkF m pc ls (.int y :: .int x :: rest))) := by
  subst hpc
  exact own_of (fun t q => XS.isub X.here hx rfl hd rfl q) w
theorem own_lsub (X : Stand p l e R s m args below meth c T locs cells slots) (hx : p.tables.exec = Jvm.exec) {x y : Int64} (hd : decode c.code pc = .ok (.lsub, 1)) (hpc : pc + 1 = pc') (w : own_WP p e below s Q k n (T.setTop (mkF m pc' ls (.long (x - y) :: rest)))) : own_WP p e below s Q k n (T.setTop (mkF m pc ls (.long y :: .long x :: rest))) := by
  subst hpc
  exact own_of (fun t q => XS.lsub X.here hx rfl hd rfl q) w
theorem own_imul (X : Stand p l e R s m args below meth c T locs cells slots) (hx : p.tables.exec = Jvm.exec) {x y : Int32} (hd : decode c.code pc = .ok (.imul, 1)) (hpc : pc + 1 = pc') (w : own_WP p e below s Q k n (T.setTop (mkF m pc' ls (.int (x * y) :: rest)))) : own_WP p e below s Q k n (T.setTop (mkF m pc ls (.int y :: .int x :: rest))) := by
  subst hpc
  exact own_of (fun t q => XS.imul X.here hx rfl hd rfl q) w
theorem own_lmul (X : Stand p l e R s m args below meth c T locs cells slots) (hx : p.tables.exec = Jvm.exec) {x y : Int64} (hd : decode c.code pc = .ok (.lmul, 1)) (hpc : pc + 1 = pc') (w : own_WP p e below s Q k n (T.setTop (mkF m pc' ls (.long (x * y) :: rest)))) : own_WP p e below s Q k n (T.setTop (mkF m pc ls (.long y :: .long x :: rest))) := by
  subst hpc
  exact own_of (fun t q => XS.lmul X.here hx rfl hd rfl q) w
theorem own_iand (X : Stand p l e R s m args below meth c T locs cells slots) (hx : p.tables.exec = Jvm.exec) {x y : Int32} (hd : decode c.code pc = .ok (.iand, 1)) (hpc : pc + 1 = pc') (w : own_WP p e below s Q k n (T.setTop (mkF m pc' ls (.int (x &&& y) :: rest)))) : own_WP p e below s Q k n (T.setTop (mkF m pc ls (.int y :: .int x :: rest))) := by
  subst hpc
  exact own_of (fun t q => XS.iand X.here hx rfl hd rfl q) w
theorem own_land (X : Stand p l e R s m args below meth c T locs cells slots) (hx : p.tables.exec = Jvm.exec) {x y : Int64} (hd : decode c.code pc = .ok (.land, 1)) (hpc : pc + 1 = pc') (w : own_WP p e below s Q k n (T.setTop (mkF m pc' ls (.long (x &&& y) :: rest)))) : own_WP p e below s Q k n (T.setTop (mkF m pc ls (.long y :: .long x :: rest))) := by
  subst hpc
  exact own_of (fun t q => XS.land X.here hx rfl hd rfl q) w
theorem own_ior (X : Stand p l e R s m args below meth c T locs cells slots) (hx : p.tables.exec = Jvm.exec) {x y : Int32} (hd : decode c.code pc = .ok (.ior, 1)) (hpc : pc + 1 = pc') (w : own_WP p e below s Q k n (T.setTop (mkF m pc' ls (.int (x ||| y) :: rest)))) : own_WP p e below s Q k n (T.setTop (mkF m pc ls (.int y :: .int x :: rest))) := by
  subst hpc
  exact own_of (fun t q => XS.ior X.here hx rfl hd rfl q) w
theorem own_lor (X : Stand p l e R s m args below meth c T locs cells slots) (hx : p.tables.exec = Jvm.exec) {x y : Int64} (hd : decode c.code pc = .ok (.lor, 1)) (hpc : pc + 1 = pc') (w : own_WP p e below s Q k n (T.setTop (mkF m pc' ls (.long (x ||| y) :: rest)))) : own_WP p e below s Q k n (T.setTop (mkF m pc ls (.long y :: .long x :: rest))) := by
  subst hpc
  exact own_of (fun t q => XS.lor X.here hx rfl hd rfl q) w
theorem own_ixor (X : Stand p l e R s m args below meth c T locs cells slots) (hx : p.tables.exec = Jvm.exec) {x y : Int32} (hd : decode c.code pc = .ok (.ixor, 1)) (hpc : pc + 1 = pc') (w : own_WP p e below s Q k n (T.setTop (mkF m pc' ls (.int (x ^^^ y) :: rest)))) : own_WP p e below s Q k n (T.setTop (mkF m pc ls (.int y :: .int x :: rest))) := by
  subst hpc
  exact own_of (fun t q => XS.ixor X.here hx rfl hd rfl q) w
theorem own_lxor (X : Stand p l e R s m args below meth c T locs cells slots) (hx : p.tables.exec = Jvm.exec) {x y : Int64} (hd : decode c.code pc = .ok (.lxor, 1)) (hpc : pc + 1 = pc') (w : own_WP p e below s Q k n (T.setTop (mkF m pc' ls (.long (x ^^^ y) :: rest)))) : own_WP p e below s Q k n (T.setTop (mkF m pc ls (.long y :: .long x :: rest))) := by
  subst hpc
  exact own_of (fun t q => XS.lxor X.here hx rfl hd rfl q) w
theorem own_ishl (X : Stand p l e R s m args below meth c T locs cells slots) (hx : p.tables.exec = Jvm.exec) {x y : Int32} (hd : decode c.code pc = .ok (.ishl, 1)) (hpc : pc + 1 = pc') (w : own_WP p e below s Q k n (T.setTop (mkF m pc' ls (.int (x <<< (y &&& 31)) :: rest)))) : own_WP p e below s Q k n (T.setTop (mkF m pc ls (.int y :: .int x :: rest))) := by
  subst hpc
  exact own_of (fun t q => XS.ishl X.here hx rfl hd rfl q) w
theorem own_ishr (X : Stand p l e R s m args below meth c T locs cells slots) (hx : p.tables.exec = Jvm.exec) {x y : Int32} (hd : decode c.code pc = .ok (.ishr, 1)) (hpc : pc + 1 = pc') (w : own_WP p e below s Q k n (T.setTop (mkF m pc' ls (.int (x >>> (y &&& 31)) :: rest)))) : own_WP p e below s Q k n (T.setTop (mkF m pc ls (.int y :: .int x :: rest))) := by
  subst hpc
  exact own_of (fun t q => XS.ishr X.here hx rfl hd rfl q) w
theorem own_iushr (X : Stand p l e R s m args below meth c T locs cells slots) (hx : p.tables.exec = Jvm.exec) {x y : Int32} (hd : decode c.code pc = .ok (.iushr, 1)) (hpc : pc + 1 = pc') (w : own_WP p e below s Q k n (T.setTop (mkF m pc' ls (.int ((x.toUInt32 >>> (y &&& 31).toUInt32).toInt32) :: rest)))) : own_WP p e below s Q k n (T.setTop (mkF m pc ls (.int y :: .int x :: rest))) := by
  subst hpc
  exact own_of (fun t q => XS.iushr X.here hx rfl hd rfl q) w
theorem own_lshl (X : Stand p l e R s m args below meth c T locs cells slots) (hx : p.tables.exec = Jvm.exec) {x : Int64} {y : Int32} (hd : decode c.code pc = .ok (.lshl, 1)) (hpc : pc + 1 = pc') (w : own_WP p e below s Q k n (T.setTop (mkF m pc' ls (.long (x <<< (y &&& 0x3f).toInt64) :: rest)))) : own_WP p e below s Q k n (T.setTop (mkF m pc ls (.int y :: .long x :: rest))) := by
  subst hpc
  exact own_of (fun t q => XS.lshl X.here hx rfl hd rfl q) w
theorem own_lshr (X : Stand p l e R s m args below meth c T locs cells slots) (hx : p.tables.exec = Jvm.exec) {x : Int64} {y : Int32} (hd : decode c.code pc = .ok (.lshr, 1)) (hpc : pc + 1 = pc') (w : own_WP p e below s Q k n (T.setTop (mkF m pc' ls (.long (x >>> (y &&& 0x3f).toInt64) :: rest)))) : own_WP p e below s Q k n (T.setTop (mkF m pc ls (.int y :: .long x :: rest))) := by
  subst hpc
  exact own_of (fun t q => XS.lshr X.here hx rfl hd rfl q) w
theorem own_lushr (X : Stand p l e R s m args below meth c T locs cells slots) (hx : p.tables.exec = Jvm.exec) {x : Int64} {y : Int32} (hd : decode c.code pc = .ok (.lushr, 1)) (hpc : pc + 1 = pc') (w : own_WP p e below s Q k n (T.setTop (mkF m pc' ls (.long ((x.toUInt64 >>> (y &&& 0x3f).toInt64.toUInt64).toInt64) :: rest)))) : own_WP p e below s Q k n (T.setTop (mkF m pc ls (.int y :: .long x :: rest))) := by
  subst hpc
  exact own_of (fun t q => XS.lushr X.here hx rfl hd rfl q) w
theorem own_idiv (X : Stand p l e R s m args below meth c T locs cells slots) (hx : p.tables.exec = Jvm.exec) {x y : Int32} (hd : decode c.code pc = .ok (.idiv, 1)) (hy : y ≠ 0) (hpc : pc + 1 = pc') (w : own_WP p e below s Q k n (T.setTop (mkF m pc' ls (.int (x / y) :: rest)))) : own_WP p e below s Q k n (T.setTop (mkF m pc ls (.int y :: .int x :: rest))) := by
  subst hpc
  exact own_of (fun t q => XS.idiv X.here hx rfl hd rfl hy q) w
theorem own_irem (X : Stand p l e R s m args below meth c T locs cells slots) (hx : p.tables.exec = Jvm.exec) {x y : Int32} (hd : decode c.code pc = .ok (.irem, 1)) (hy : y ≠ 0) (hpc : pc + 1 = pc') (w : own_WP p e below s Q k n (T.setTop (mkF m pc' ls (.int (x % y) :: rest)))) : own_WP p e below s Q k n (T.setTop (mkF m pc ls (.int y :: .int x :: rest))) := by
  subst hpc
  exact own_of (fun t q => iremM X hx rfl hd rfl hy q) w
theorem own_ldiv (X : Stand p l e R s m args below meth c T locs cells slots) (hx : p.tables.exec = Jvm.exec) {x y : Int64} (hd : decode c.code pc = .ok (.ldiv, 1)) (hy : y ≠ 0) (hpc : pc + 1 = pc') (w : own_WP p e below s Q k n (T.setTop (mkF m pc' ls (.long (x / y) :: rest)))) : own_WP p e below s Q k n (T.setTop (mkF m pc ls (.long y :: .long x :: rest))) := by
  subst hpc
  exact own_of (fun t q => XS.ldiv X.here hx rfl hd rfl hy q) w
theorem own_lrem (X : Stand p l e R s m args below meth c T locs cells slots) (hx : p.tables.exec = Jvm.exec) {x y : Int64} (hd : decode c.code pc = .ok (.lrem, 1)) (hy : y ≠ 0) (hpc : pc + 1 = pc') (w : own_WP p e below s Q k n (T.setTop (mkF m pc' ls (.long (x % y) :: rest)))) : own_WP p e below s Q k n (T.setTop (mkF m pc ls (.long y :: .long x :: rest))) := by
  subst hpc
  exact own_of (fun t q => XS.lrem X.here hx rfl hd rfl hy ((lrem_mod x y).symm ▸ q)) w
theorem own_ineg (X : Stand p l e R s m args below meth c T locs cells slots) (hx : p.tables.exec = Jvm.exec) {x : Int32} (hd : decode c.code pc = .ok (.ineg, 1)) (hpc : pc + 1 = pc') (w : own_WP p e below s Q k n (T.setTop (mkF m pc' ls (.int (-x) :: rest)))) : own_WP p e below s Q k n (T.setTop (mkF m pc ls (.int x :: rest))) := by
  subst hpc
  exact own_of (fun t q => XS.ineg X.here hx rfl hd rfl q) w
theorem own_lneg (X : Stand p l e R s m args below meth c T locs cells slots) (hx : p.tables.exec = Jvm.exec) {x : Int64} (hd : decode c.code pc = .ok (.lneg, 1)) (hpc : pc + 1 = pc') (w : own_WP p e below s Q k n (T.setTop (mkF m pc' ls (.long (-x) :: rest)))) : own_WP p e below s Q k n (T.setTop (mkF m pc ls (.long x :: rest))) := by
  subst hpc
  exact own_of (fun t q => XS.lneg X.here hx rfl hd rfl q) w
theorem own_i2l (X : Stand p l e R s m args below meth c T locs cells slots) (hx : p.tables.exec = Jvm.exec) {x : Int32} (hd : decode c.code pc = .ok (.i2l, 1)) (hpc : pc + 1 = pc') (w : own_WP p e below s Q k n (T.setTop (mkF m pc' ls (.long (x.toInt64) :: rest)))) : own_WP p e below s Q k n (T.setTop (mkF m pc ls (.int x :: rest))) := by
  subst hpc
  exact own_of (fun t q => XS.i2l X.here hx rfl hd rfl q) w
theorem own_l2i (X : Stand p l e R s m args below meth c T locs cells slots) (hx : p.tables.exec = Jvm.exec) {x : Int64} (hd : decode c.code pc = .ok (.l2i, 1)) (hpc : pc + 1 = pc') (w : own_WP p e below s Q k n (T.setTop (mkF m pc' ls (.int (x.toInt32) :: rest)))) : own_WP p e below s Q k n (T.setTop (mkF m pc ls (.long x :: rest))) := by
  subst hpc
  exact own_of (fun t q => XS.l2i X.here hx rfl hd rfl q) w
theorem own_i2b (X : Stand p l e R s m args below meth c T locs cells slots) (hx : p.tables.exec = Jvm.exec) {x : Int32} (hd : decode c.code pc = .ok (.i2b, 1)) (hpc : pc + 1 = pc') (w : own_WP p e below s Q k n (T.setTop (mkF m pc' ls (.int (x.toInt8.toInt32) :: rest)))) : own_WP p e below s Q k n (T.setTop (mkF m pc ls (.int x :: rest))) := by
  subst hpc
  exact own_of (fun t q => XS.i2b X.here hx rfl hd rfl q) w
theorem own_i2s (X : Stand p l e R s m args below meth c T locs cells slots) (hx : p.tables.exec = Jvm.exec) {x : Int32} (hd : decode c.code pc = .ok (.i2s, 1)) (hpc : pc + 1 = pc') (w : own_WP p e below s Q k n (T.setTop (mkF m pc' ls (.int (x.toInt16.toInt32) :: rest)))) : own_WP p e below s Q k n (T.setTop (mkF m pc ls (.int x :: rest))) := by
  subst hpc
  exact own_of (fun t q => XS.i2s X.here hx rfl hd rfl q) w
theorem own_i2c (X : Stand p l e R s m args below meth c T locs cells slots) (hx : p.tables.exec = Jvm.exec) {x : Int32} (hd : decode c.code pc = .ok (.i2c, 1)) (hpc : pc + 1 = pc') (w : own_WP p e below s Q k n (T.setTop (mkF m pc' ls (.int (x.toUInt32.toUInt16.toUInt32.toInt32) :: rest)))) : own_WP p e below s Q k n (T.setTop (mkF m pc ls (.int x :: rest))) := by
  subst hpc
  exact own_of (fun t q => XS.i2c X.here hx rfl hd rfl q) w
theorem own_lcmp (X : Stand p l e R s m args below meth c T locs cells slots) (hx : p.tables.exec = Jvm.exec) {x y : Int64} (hd : decode c.code pc = .ok (.lcmp, 1)) (hpc : pc + 1 = pc') (w : own_WP p e below s Q k n (T.setTop (mkF m pc' ls (.int (lcmpW x y) :: rest)))) : own_WP p e below s Q k n (T.setTop (mkF m pc ls (.long y :: .long x :: rest))) := by
  subst hpc
  exact own_of (fun t q => XS.lcmp X.here hx rfl hd rfl q) w
theorem own_dup (X : Stand p l e R s m args below meth c T locs cells slots) (hx : p.tables.exec = Jvm.exec) {v : Value} (hd : decode c.code pc = .ok (.dup, 1)) (hv : v.category = 1) (hpc : pc + 1 = pc') (w : own_WP p e below s Q k n (T.setTop (mkF m pc' ls (v :: v :: rest)))) : own_WP p e below s Q k n (T.setTop (mkF m pc ls (v :: rest))) := by
  subst hpc
  exact own_of (fun t q => XS.dup X.here hx rfl hd rfl hv q) w
theorem own_pop (X : Stand p l e R s m args below meth c T locs cells slots) (hx : p.tables.exec = Jvm.exec) {v : Value} (hd : decode c.code pc = .ok (.pop, 1)) (hv : v.category = 1) (hpc : pc + 1 = pc') (w : own_WP p e below s Q k n (T.setTop (mkF m pc' ls rest))) : own_WP p e below s Q k n (T.setTop (mkF m pc ls (v :: rest))) := by
  subst hpc
  exact own_of (fun t q => XS.pop X.here hx rfl hd rfl hv q) w
theorem own_dup2 (X : Stand p l e R s m args below meth c T locs cells slots) (hx : p.tables.exec = Jvm.exec) {v1 v2 : Value} (hd : decode c.code pc = .ok (.dup2, 1)) (h1 : v1.category = 1) (h2 : v2.category = 1) (hpc : pc + 1 = pc') (w : own_WP p e below s Q k n (T.setTop (mkF m pc' ls (v1 :: v2 :: v1 :: v2 :: rest)))) : own_WP p e below s Q k n (T.setTop (mkF m pc ls (v1 :: v2 :: rest))) := by
  subst hpc
  refine own_of (fun t q => ?_) w
  jvm_step X.here [X.here.top, hx, hd, h1, h2]
  exact q
theorem own_goto (X : Stand p l e R s m args below meth c T locs cells slots) (hx : p.tables.exec = Jvm.exec) {o : Int} (hd : decode c.code pc = .ok (.goto o, 3)) (ho : 0 ≤ (pc : Int) + o) (hpc : ((pc : Int) + o).toNat = pc') (w : own_WP p e below s Q k n (T.setTop (mkF m pc' ls rest))) : own_WP p e below s Q k n (T.setTop (mkF m pc ls rest)) :=
  own_of (fun t q => XS.goto X.here hx rfl (pc0 := pc) (pc' := pc') rfl hd ho hpc q) w
theorem own_icmp_lt (X : Stand p l e R s m args below meth c T locs cells slots) (hx : p.tables.exec = Jvm.exec) {x y : Int32} {o : Int} {pf pt : Nat} (hd : decode c.code pc = .ok (.if_icmp .lt o, 3)) (hpf : pc + 3 = pf) (ho : 0 ≤ (pc : Int) + o) (hpt : ((pc : Int) + o).toNat = pt)
    (yes : x < y → own_WP p e below s Q k n (T.setTop (mkF m pt ls rest))) (no : ¬ x < y → own_WP p e below s Q k n (T.setTop (mkF m pf ls rest))) : own_WP p e below s Q k n (T.setTop (mkF m pc ls (.int y :: .int x :: rest))) := by
  subst hpf
  by_cases hq : x < y
  · exact own_of (fun t q => XS.icmpYes X.here hx rfl (pc0 := pc) (pc' := pt) rfl hd rfl ((tlt hq).1) ho hpt q) (yes hq)
  · exact own_of (fun t q => XS.icmpNo X.here hx rfl hd rfl ((flt hq).1) q) (no hq)
theorem own_if_lt (X : Stand p l e R s m args below meth c T locs cells slots) (hx : p.tables.exec = Jvm.exec) {x : Int32} {o : Int} {pf pt : Nat} (hd : decode c.code pc = .ok (.ifCond .lt o, 3)) (hpf : pc + 3 = pf) (ho : 0 ≤ (pc : Int) + o) (hpt : ((pc : Int) + o).toNat = pt)
    (yes : x < 0 → own_WP p e below s Q k n (T.setTop (mkF m pt ls rest))) (no : ¬ x < 0 → own_WP p e below s Q k n (T.setTop (mkF m pf ls rest))) : own_WP p e below s Q k n (T.setTop (mkF m pc ls (.int x :: rest))) := by
  subst hpf
  by_cases hq : x < 0
  · exact own_of (fun t q => XS.ifYes X.here hx rfl (pc0 := pc) (pc' := pt) rfl hd rfl ((if0 _ _).trans (tlt hq).1) ho hpt q) (yes hq)
  · exact own_of (fun t q => XS.ifNo X.here hx rfl hd rfl ((if0 _ _).trans (flt hq).1) q) (no hq)
theorem own_ifl_lt (X : Stand p l e R s m args below meth c T locs cells slots) (hx : p.tables.exec = Jvm.exec) {x y : Int64} {o : Int} {pf pt : Nat} (hd : decode c.code pc = .ok (.ifCond .lt o, 3)) (hpf : pc + 3 = pf) (ho : 0 ≤ (pc : Int) + o) (hpt : ((pc : Int) + o).toNat = pt)
    (yes : x < y → own_WP p e below s Q k n (T.setTop (mkF m pt ls rest))) (no : ¬ x < y → own_WP p e below s Q k n (T.setTop (mkF m pf ls rest))) : own_WP p e below s Q k n (T.setTop (mkF m pc ls (.int (lcmpW x y) :: rest))) := by
  subst hpf
  by_cases hq : x < y
  · exact own_of (fun t q => XS.ifYes X.here hx rfl (pc0 := pc) (pc' := pt) rfl hd rfl ((if0 _ _).trans (tlt ((lw_lt x y).mpr hq)).1) ho hpt q) (yes hq)
  · exact own_of (fun t q => XS.ifNo X.here hx rfl hd rfl ((if0 _ _).trans (flt (fun z => hq ((lw_lt x y).mp z))).1) q) (no hq)
theorem own_icmp_ge (X : Stand p l e R s m args below meth c T locs cells slots) (hx : p.tables.exec = Jvm.exec) {x y : Int32} {o : Int} {pf pt : Nat} (hd : decode c.code pc = .ok (.if_icmp .ge o, 3)) (hpf : pc + 3 = pf) (ho : 0 ≤ (pc : Int) + o) (hpt : ((pc : Int) + o).toNat = pt)
    (yes : ¬ x < y → own_WP p e below s Q k n (T.setTop (mkF m pt ls rest))) (no : x < y → own_WP p e below s Q k n (T.setTop (mkF m pf ls rest))) : own_WP p e below s Q k n (T.setTop (mkF m pc ls (.int y :: .int x :: rest))) := by
  subst hpf
  by_cases hq : ¬ x < y
  · exact own_of (fun t q => XS.icmpYes X.here hx rfl (pc0 := pc) (pc' := pt) rfl hd rfl ((flt hq).2.1) ho hpt q) (yes hq)
  · exact own_of (fun t q => XS.icmpNo X.here hx rfl hd rfl ((tlt (Classical.not_not.mp hq)).2.1) q) (no (Classical.not_not.mp hq))
theorem own_if_ge (X : Stand p l e R s m args below meth c T locs cells slots) (hx : p.tables.exec = Jvm.exec) {x : Int32} {o : Int} {pf pt : Nat} (hd : decode c.code pc = .ok (.ifCond .ge o, 3)) (hpf : pc + 3 = pf) (ho : 0 ≤ (pc : Int) + o) (hpt : ((pc : Int) + o).toNat = pt)
    (yes : ¬ x < 0 → own_WP p e below s Q k n (T.setTop (mkF m pt ls rest))) (no : x < 0 → own_WP p e below s Q k n (T.setTop (mkF m pf ls rest))) : own_WP p e below s Q k n (T.setTop (mkF m pc ls (.int x :: rest))) := by
  subst hpf
  by_cases hq : ¬ x < 0
  · exact own_of (fun t q => XS.ifYes X.here hx rfl (pc0 := pc) (pc' := pt) rfl hd rfl ((if0 _ _).trans (flt hq).2.1) ho hpt q) (yes hq)
  · exact own_of (fun t q => XS.ifNo X.here hx rfl hd rfl ((if0 _ _).trans (tlt (Classical.not_not.mp hq)).2.1) q) (no (Classical.not_not.mp hq))
theorem own_ifl_ge (X : Stand p l e R s m args below meth c T locs cells slots) (hx : p.tables.exec = Jvm.exec) {x y : Int64} {o : Int} {pf pt : Nat} (hd : decode c.code pc = .ok (.ifCond .ge o, 3)) (hpf : pc + 3 = pf) (ho : 0 ≤ (pc : Int) + o) (hpt : ((pc : Int) + o).toNat = pt)
    (yes : ¬ x < y → own_WP p e below s Q k n (T.setTop (mkF m pt ls rest))) (no : x < y → own_WP p e below s Q k n (T.setTop (mkF m pf ls rest))) : own_WP p e below s Q k n (T.setTop (mkF m pc ls (.int (lcmpW x y) :: rest))) := by
  subst hpf
  by_cases hq : ¬ x < y
  · exact own_of (fun t q => XS.ifYes X.here hx rfl (pc0 := pc) (pc' := pt) rfl hd rfl ((if0 _ _).trans (flt (fun z => hq ((lw_lt x y).mp z))).2.1) ho hpt q) (yes hq)
  · exact own_of (fun t q => XS.ifNo X.here hx rfl hd rfl ((if0 _ _).trans (tlt ((lw_lt x y).mpr (Classical.not_not.mp hq))).2.1) q) (no (Classical.not_not.mp hq))
theorem own_icmp_gt (X : Stand p l e R s m args below meth c T locs cells slots) (hx : p.tables.exec = Jvm.exec) {x y : Int32} {o : Int} {pf pt : Nat} (hd : decode c.code pc = .ok (.if_icmp .gt o, 3)) (hpf : pc + 3 = pf) (ho : 0 ≤ (pc : Int) + o) (hpt : ((pc : Int) + o).toNat = pt)
    (yes : y < x → own_WP p e below s Q k n (T.setTop (mkF m pt ls rest))) (no : ¬ y < x → own_WP p e below s Q k n (T.setTop (mkF m pf ls rest))) : own_WP p e below s Q k n (T.setTop (mkF m pc ls (.int y :: .int x :: rest))) := by
  subst hpf
  by_cases hq : y < x
  · exact own_of (fun t q => XS.icmpYes X.here hx rfl (pc0 := pc) (pc' := pt) rfl hd rfl ((tlt hq).2.2.1) ho hpt q) (yes hq)
  · exact own_of (fun t q => XS.icmpNo X.here hx rfl hd rfl ((flt hq).2.2.1) q) (no hq)
theorem own_if_gt (X : Stand p l e R s m args below meth c T locs cells slots) (hx : p.tables.exec = Jvm.exec) {x : Int32} {o : Int} {pf pt : Nat} (hd : decode c.code pc = .ok (.ifCond .gt o, 3)) (hpf : pc + 3 = pf) (ho : 0 ≤ (pc : Int) + o) (hpt : ((pc : Int) + o).toNat = pt)
    (yes : 0 < x → own_WP p e below s Q k n (T.setTop (mkF m pt ls rest))) (no : ¬ 0 < x → own_WP p e below s Q k n (T.setTop (mkF m pf ls rest))) : own_WP p e below s Q k n (T.setTop (mkF m pc ls (.int x :: rest))) := by
  subst hpf
  by_cases hq : 0 < x
  · exact own_of (fun t q => XS.ifYes X.here hx rfl (pc0 := pc) (pc' := pt) rfl hd rfl ((if0 _ _).trans (tlt hq).2.2.1) ho hpt q) (yes hq)
  · exact own_of (fun t q => XS.ifNo X.here hx rfl hd rfl ((if0 _ _).trans (flt hq).2.2.1) q) (no hq)
theorem own_ifl_gt (X : Stand p l e R s m args below meth c T locs cells slots) (hx : p.tables.exec = Jvm.exec) {x y : Int64} {o : Int} {pf pt : Nat} (hd : decode c.code pc = .ok (.ifCond .gt o, 3)) (hpf : pc + 3 = pf) (ho : 0 ≤ (pc : Int) + o) (hpt : ((pc : Int) + o).toNat = pt)
    (yes : y < x → own_WP p e below s Q k n (T.setTop (mkF m pt ls rest))) (no : ¬ y < x → own_WP p e below s Q k n (T.setTop (mkF m pf ls rest))) : own_WP p e below s Q k n (T.setTop (mkF m pc ls (.int (lcmpW x y) :: rest))) := by
  subst hpf
  by_cases hq : y < x
  · exact own_of (fun t q => XS.ifYes X.here hx rfl (pc0 := pc) (pc' := pt) rfl hd rfl ((if0 _ _).trans (tlt ((lw_gt x y).mpr hq)).2.2.1) ho hpt q) (yes hq)
  · exact own_of (fun t q => XS.ifNo X.here hx rfl hd rfl ((if0 _ _).trans (flt (fun z => hq ((lw_gt x y).mp z))).2.2.1) q) (no hq)
theorem own_icmp_le (X : Stand p l e R s m args below meth c T locs cells slots) (hx : p.tables.exec = Jvm.exec) {x y : Int32} {o : Int} {pf pt : Nat} (hd : decode c.code pc = .ok (.if_icmp .le o, 3)) (hpf : pc + 3 = pf) (ho : 0 ≤ (pc : Int) + o) (hpt : ((pc : Int) + o).toNat = pt)
    (yes : ¬ y < x → own_WP p e below s Q k n (T.setTop (mkF m pt ls rest))) (no : y < x → own_WP p e below s Q k n (T.setTop (mkF m pf ls rest))) : own_WP p e below s Q k n (T.setTop (mkF m pc ls (.int y :: .int x :: rest))) := by
  subst hpf
  by_cases hq : ¬ y < x
  · exact own_of (fun t q => XS.icmpYes X.here hx rfl (pc0 := pc) (pc' := pt) rfl hd rfl ((flt hq).2.2.2) ho hpt q) (yes hq)
  · exact own_of (fun t q => XS.icmpNo X.here hx rfl hd rfl ((tlt (Classical.not_not.mp hq)).2.2.2) q) (no (Classical.not_not.mp hq))
theorem own_if_le (X : Stand p l e R s m args below meth c T locs cells slots) (hx : p.tables.exec = Jvm.exec) {x : Int32} {o : Int} {pf pt : Nat} (hd : decode c.code pc = .ok (.ifCond .le o, 3)) (hpf : pc + 3 = pf) (ho : 0 ≤ (pc : Int) + o) (hpt : ((pc : Int) + o).toNat = pt)
    (yes : ¬ 0 < x → own_WP p e below s Q k n (T.setTop (mkF m pt ls rest))) (no : 0 < x → own_WP p e below s Q k n (T.setTop (mkF m pf ls rest))) : own_WP p e below s Q k n (T.setTop (mkF m pc ls (.int x :: rest))) := by
  subst hpf
  by_cases hq : ¬ 0 < x
  · exact own_of (fun t q => XS.ifYes X.here hx rfl (pc0 := pc) (pc' := pt) rfl hd rfl ((if0 _ _).trans (flt hq).2.2.2) ho hpt q) (yes hq)
  · exact own_of (fun t q => XS.ifNo X.here hx rfl hd rfl ((if0 _ _).trans (tlt (Classical.not_not.mp hq)).2.2.2) q) (no (Classical.not_not.mp hq))
theorem own_ifl_le (X : Stand p l e R s m args below meth c T locs cells slots) (hx : p.tables.exec = Jvm.exec) {x y : Int64} {o : Int} {pf pt : Nat} (hd : decode c.code pc = .ok (.ifCond .le o, 3)) (hpf : pc + 3 = pf) (ho : 0 ≤ (pc : Int) + o) (hpt : ((pc : Int) + o).toNat = pt)
    (yes : ¬ y < x → own_WP p e below s Q k n (T.setTop (mkF m pt ls rest))) (no : y < x → own_WP p e below s Q k n (T.setTop (mkF m pf ls rest))) : own_WP p e below s Q k n (T.setTop (mkF m pc ls (.int (lcmpW x y) :: rest))) := by
  subst hpf
  by_cases hq : ¬ y < x
  · exact own_of (fun t q => XS.ifYes X.here hx rfl (pc0 := pc) (pc' := pt) rfl hd rfl ((if0 _ _).trans (flt (fun z => hq ((lw_gt x y).mp z))).2.2.2) ho hpt q) (yes hq)
  · exact own_of (fun t q => XS.ifNo X.here hx rfl hd rfl ((if0 _ _).trans (tlt ((lw_gt x y).mpr (Classical.not_not.mp hq))).2.2.2) q) (no (Classical.not_not.mp hq))
theorem own_icmp_eq (X : Stand p l e R s m args below meth c T locs cells slots) (hx : p.tables.exec = Jvm.exec) {x y : Int32} {o : Int} {pf pt : Nat} (hd : decode c.code pc = .ok (.if_icmp .eq o, 3)) (hpf : pc + 3 = pf) (ho : 0 ≤ (pc : Int) + o) (hpt : ((pc : Int) + o).toNat = pt)
    (yes : x = y → own_WP p e below s Q k n (T.setTop (mkF m pt ls rest))) (no : ¬ x = y → own_WP p e below s Q k n (T.setTop (mkF m pf ls rest))) : own_WP p e below s Q k n (T.setTop (mkF m pc ls (.int y :: .int x :: rest))) := by
  subst hpf
  by_cases hq : x = y
  · exact own_of (fun t q => XS.icmpYes X.here hx rfl (pc0 := pc) (pc' := pt) rfl hd rfl ((teq hq).1) ho hpt q) (yes hq)
  · exact own_of (fun t q => XS.icmpNo X.here hx rfl hd rfl ((feq hq).1) q) (no hq)
theorem own_if_eq (X : Stand p l e R s m args below meth c T locs cells slots) (hx : p.tables.exec = Jvm.exec) {x : Int32} {o : Int} {pf pt : Nat} (hd : decode c.code pc = .ok (.ifCond .eq o, 3)) (hpf : pc + 3 = pf) (ho : 0 ≤ (pc : Int) + o) (hpt : ((pc : Int) + o).toNat = pt)
    (yes : x = 0 → own_WP p e below s Q k n (T.setTop (mkF m pt ls rest))) (no : ¬ x = 0 → own_WP p e below s Q k n (T.setTop (mkF m pf ls rest))) : own_WP p e below s Q k n (T.setTop (mkF m pc ls (.int x :: rest))) := by
  subst hpf
  by_cases hq : x = 0
  · exact own_of (fun t q => XS.ifYes X.here hx rfl (pc0 := pc) (pc' := pt) rfl hd rfl ((if0 _ _).trans (teq hq).1) ho hpt q) (yes hq)
  · exact own_of (fun t q => XS.ifNo X.here hx rfl hd rfl ((if0 _ _).trans (feq hq).1) q) (no hq)
theorem own_ifl_eq (X : Stand p l e R s m args below meth c T locs cells slots) (hx : p.tables.exec = Jvm.exec) {x y : Int64} {o : Int} {pf pt : Nat} (hd : decode c.code pc = .ok (.ifCond .eq o, 3)) (hpf : pc + 3 = pf) (ho : 0 ≤ (pc : Int) + o) (hpt : ((pc : Int) + o).toNat = pt)
    (yes : x = y → own_WP p e below s Q k n (T.setTop (mkF m pt ls rest))) (no : ¬ x = y → own_WP p e below s Q k n (T.setTop (mkF m pf ls rest))) : own_WP p e below s Q k n (T.setTop (mkF m pc ls (.int (lcmpW x y) :: rest))) := by
  subst hpf
  by_cases hq : x = y
  · exact own_of (fun t q => XS.ifYes X.here hx rfl (pc0 := pc) (pc' := pt) rfl hd rfl ((if0 _ _).trans (teq ((lw_eq x y).mpr hq)).1) ho hpt q) (yes hq)
  · exact own_of (fun t q => XS.ifNo X.here hx rfl hd rfl ((if0 _ _).trans (feq (fun z => hq ((lw_eq x y).mp z))).1) q) (no hq)
theorem own_icmp_ne (X : Stand p l e R s m args below meth c T locs cells slots) (hx : p.tables.exec = Jvm.exec) {x y : Int32} {o : Int} {pf pt : Nat} (hd : decode c.code pc = .ok (.if_icmp .ne o, 3)) (hpf : pc + 3 = pf) (ho : 0 ≤ (pc : Int) + o) (hpt : ((pc : Int) + o).toNat = pt)
    (yes : ¬ x = y → own_WP p e below s Q k n (T.setTop (mkF m pt ls rest))) (no : x = y → own_WP p e below s Q k n (T.setTop (mkF m pf ls rest))) : own_WP p e below s Q k n (T.setTop (mkF m pc ls (.int y :: .int x :: rest))) := by
  subst hpf
  by_cases hq : ¬ x = y
  · exact own_of (fun t q => XS.icmpYes X.here hx rfl (pc0 := pc) (pc' := pt) rfl hd rfl ((feq hq).2) ho hpt q) (yes hq)
  · exact own_of (fun t q => XS.icmpNo X.here hx rfl hd rfl ((teq (Classical.not_not.mp hq)).2) q) (no (Classical.not_not.mp hq))
theorem own_if_ne (X : Stand p l e R s m args below meth c T locs cells slots) (hx : p.tables.exec = Jvm.exec) {x : Int32} {o : Int} {pf pt : Nat} (hd : decode c.code pc = .ok (.ifCond .ne o, 3)) (hpf : pc + 3 = pf) (ho : 0 ≤ (pc : Int) + o) (hpt : ((pc : Int) + o).toNat = pt)
    (yes : ¬ x = 0 → own_WP p e below s Q k n (T.setTop (mkF m pt ls rest))) (no : x = 0 → own_WP p e below s Q k n (T.setTop (mkF m pf ls rest))) : own_WP p e below s Q k n (T.setTop (mkF m pc ls (.int x :: rest))) := by
  subst hpf
  by_cases hq : ¬ x = 0
  · exact own_of (fun t q => XS.ifYes X.here hx rfl (pc0 := pc) (pc' := pt) rfl hd rfl ((if0 _ _).trans (feq hq).2) ho hpt q) (yes hq)
  · exact own_of (fun t q => XS.ifNo X.here hx rfl hd rfl ((if0 _ _).trans (teq (Classical.not_not.mp hq)).2) q) (no (Classical.not_not.mp hq))
theorem own_ifl_ne (X : Stand p l e R s m args below meth c T locs cells slots) (hx : p.tables.exec = Jvm.exec) {x y : Int64} {o : Int} {pf pt : Nat} (hd : decode c.code pc = .ok (.ifCond .ne o, 3)) (hpf : pc + 3 = pf) (ho : 0 ≤ (pc : Int) + o) (hpt : ((pc : Int) + o).toNat = pt)
    (yes : ¬ x = y → own_WP p e below s Q k n (T.setTop (mkF m pt ls rest))) (no : x = y → own_WP p e below s Q k n (T.setTop (mkF m pf ls rest))) : own_WP p e below s Q k n (T.setTop (mkF m pc ls (.int (lcmpW x y) :: rest))) := by
  subst hpf
  by_cases hq : ¬ x = y
  · exact own_of (fun t q => XS.ifYes X.here hx rfl (pc0 := pc) (pc' := pt) rfl hd rfl ((if0 _ _).trans (feq (fun z => hq ((lw_eq x y).mp z))).2) ho hpt q) (yes hq)
  · exact own_of (fun t q => XS.ifNo X.here hx rfl hd rfl ((if0 _ _).trans (teq ((lw_eq x y).mpr (Classical.not_not.mp hq))).2) q) (no (Classical.not_not.mp hq))
theorem own_getF (X : Stand p l e R s m args below meth c T locs cells slots) (hx : p.tables.exec = Jvm.exec) (hZ : Z.Warmed39 s.vm) {own R0 O nm d host : String} {idx : Nat} (hown : s.vm.findClass own = some m.cls) (w1 : (Jvm.Cond.fieldLink own idx R0 nm d).before a0 Z = true ∨ (Jvm.Cond.fieldLinkNest own idx R0 nm d host).before a0 Z = true) (via : Via Z R0 O nm d) (eT : T.heap = h) {b : Addr} {v : Value} (F : Fld Z h b O nm d v) (hd : decode c.code pc = .ok (.getfield idx, 3)) (hpc : pc + 3 = pc')
    (w : ∀ T', Stand p l e R s m args below meth c T' locs cells slots → T'.heap = h → own_WP p e below s Q k n (T'.setTop (mkF m pc' ls (v :: rest)))) : own_WP p e below s Q k n (T.setTop (mkF m pc ls (.ref b :: rest))) := by
  subst hpc
  obtain ⟨T', X', e', st⟩ := getF X hx hZ hown w1 via eT F (g := mkF m pc ls (.ref b :: rest)) rfl rfl hd
  exact own_of st (w T' X' e')
theorem own_putF (X : Stand p l e R s m args below meth c T locs cells slots) (hx : p.tables.exec = Jvm.exec) (hZ : Z.Warmed39 s.vm) {own R0 O nm d host C : String} {idx kk : Nat} {ty : FieldType} (hown : s.vm.findClass own = some m.cls) (w1 : (Jvm.Cond.fieldLink own idx R0 nm d).before a0 Z = true ∨ (Jvm.Cond.fieldLinkNest own idx R0 nm d host).before a0 Z = true) (via : Via Z R0 O nm d) (eT : T.heap = h) {b : Addr} {v old : Value} (F : Fld Z h b O nm d old) (E : Exa Z h b C) (L : (Jvm.Cond.lays C O nm d).before a0 Z = true ∨ ((Jvm.Cond.laysFinal C O nm d).before a0 Z = true ∧ own = O ∧ meth.name = "<init>")) (wi : (Jvm.Cond.instantiable C kk).before a0 Z = true) (hty : parseFieldDescriptor d = some ty) (hn : narrow ty v = v) (hf : fits ty v = true) (hd : decode c.code pc = .ok (.putfield idx, 3)) (hpc : pc + 3 = pc')
    (w : ∀ T' h', Stand p l e R s m args below meth c T' (locs ++ [⟨b, Jvm.RoadKit.slotOf Z O nm d⟩]) cells slots → T'.heap = h' → Wr h h' b (Jvm.RoadKit.slotOf Z O nm d) v → own_WP p e below s Q k n (T'.setTop (mkF m pc' ls rest))) : own_WP p e below s Q k n (T.setTop (mkF m pc ls (v :: .ref b :: rest))) := by
  subst hpc
  obtain ⟨T', h', X', e', W', st⟩ := putF X hx hZ hown w1 via eT F E L wi hty hn hf (g := mkF m pc ls (v :: .ref b :: rest)) rfl rfl hd
  exact own_of st (w T' h' X' e' W')
theorem own_new (X : Stand p l e R s m args below meth c T locs cells slots) (hx : p.tables.exec = Jvm.exec) (hZ : Z.Warmed39 s.vm) {own C : String} {idx nn : Nat} (hown : s.vm.findClass own = some m.cls) (w1 : (Jvm.Cond.classLink own idx C).before a0 Z = true) (wi : (Jvm.Cond.instantiable C nn).before a0 Z = true) (wz : (Jvm.Cond.initialized C).before a0 Z = true) (eT : T.heap = h) (hd : decode c.code pc = .ok (.new idx, 3)) (hc : cells + 1 ≤ R.cells) (hl : slots + nn ≤ R.slots) (hpc : pc + 3 = pc')
    (w : ∀ T' h' b, b = h.size → Stand p l e R s m args below meth c T' locs (cells + 1) (slots + nn) → T'.heap = h' → Ext h h' → Exa Z h' b C → (∀ {O nm d : String} {ty : FieldType}, Laid Z a0 C O nm d → parseFieldDescriptor d = some ty → Fld Z h' b O nm d (defaultValue ty)) → own_WP p e below s Q k n (T'.setTop (mkF m pc' ls (.ref b :: rest)))) : own_WP p e below s Q k n (T.setTop (mkF m pc ls rest)) := by
  subst hpc
  obtain ⟨T', h', X', e', E', A', D', -, st⟩ := newO X hx hZ hown w1 wi wz eT (g := mkF m pc ls rest) rfl hd hc hl
  exact own_of st (w T' h' _ rfl X' e' E' A' D')
theorem own_newP (X : Stand p l e R s m args below meth c T locs cells slots) (hx : p.tables.exec = Jvm.exec) (hZ : Z.Warmed39 s.vm) {aty : ArrayType} (w1 : (Jvm.Cond.arrayClass (newarray.typeOf aty)).before a0 Z = true) (eT : T.heap = h) (hd : decode c.code pc = .ok (.newarray aty, 2)) {z : Int32} (hz : ¬ z < 0) {cap : Nat} (hcap : z.toNatClampNeg ≤ cap) (hb : cap * 8 ≤ 536870912) (hc : cells + 1 ≤ R.cells) (hl : slots + cap ≤ R.slots) (hpc : pc + 2 = pc')
    (w : ∀ T' h' cA b, b = h.size → Stand p l e R s m args below meth c T' locs (cells + 1) (slots + cap) → T'.heap = h' → Ext h h' → Arr Z h' b (newA cA (newarray.typeOf aty) z) (newarray.typeOf aty) → own_WP p e below s Q k n (T'.setTop (mkF m pc' ls (.ref b :: rest)))) : own_WP p e below s Q k n (T.setTop (mkF m pc ls (.int z :: rest))) := by
  subst hpc
  obtain ⟨T', h', cA, X', e', E', A', st⟩ := newP X hx hZ w1 eT (g := mkF m pc ls (.int z :: rest)) rfl hd rfl hz hcap hb hc hl
  exact own_of st (w T' h' cA _ rfl X' e' E' A')
theorem own_initO (X : Stand p l e R s m args below meth c T locs cells slots) (hx : p.tables.exec = Jvm.exec) (hZ : Z.Warmed39 s.vm) {own : String} {idx : Nat} (hown : s.vm.findClass own = some m.cls) (w1 : (Jvm.Cond.methodLink own idx Lib.objectInit).before a0 Z = true) (w2 : (Jvm.Cond.instanceMethod Lib.objectInit).before a0 Z = true) (w3 : (Jvm.Cond.code Lib.objectInit ⟨#[0xb1]⟩ 1 none).before a0 Z = true) (eT : T.heap = h) (hsz : ls.size = c.maxLocals) {b : Addr} (hd : decode c.code pc = .ok (.invokespecial idx, 3)) (hf : 1 ≤ R.frames) {W : Nat} (hW : (rest.map fun v => v.category).sum ≤ W) (hl : W + 12 ≤ R.locals) (hpc : pc + 3 = pc')
    (w : ∀ T', Stand p l e R s m args below meth c T' locs cells slots → T'.heap = h → own_WP p e below s Q k n (T'.setTop (mkF m pc' ls rest))) : own_WP p e below s Q k n (T.setTop (mkF m pc ls (.ref b :: rest))) := by
  subst hpc
  obtain ⟨T', X', e', st⟩ := initO X hx hZ hown w1 w2 w3 eT (g := mkF m pc ls (.ref b :: rest)) rfl hsz rfl hd hf (W := W) (by show 2 * 0 + _ ≤ _; omega) hl
  exact own_of st (w T' X' e')
theorem own_callS (X : Stand p l e R s m args below meth c T locs cells slots) (hx : p.tables.exec = Jvm.exec) (hZ : Z.Warmed39 s.vm) {own : String} {idx : Nat} {y : MethodName} {bytes : ByteArray} {maxL : Nat} {ret : Option FieldType} {rm : Room} {as' : Array Value} {Q' : Option Value → Heap → List Loc → Prop} (hown : s.vm.findClass own = some m.cls) (w1 : (Jvm.Cond.methodLink own idx y).before a0 Z = true) (w2 : (Jvm.Cond.static y).before a0 Z = true) (w3 : (Jvm.Cond.initialized y.cls).before a0 Z = true) (w4 : (Jvm.Cond.code y bytes maxL ret).before a0 Z = true) (hy : y.cls ≠ "java/lang/invoke/MethodHandle" ∧ y.cls ≠ "java/lang/invoke/VarHandle")
    (C : own_Con l Z y bytes maxL ret rm as' h Q') (eT : T.heap = h) {ps : List FieldType} {rt : Option FieldType} (hpd : parseMethodDescriptor y.desc = some ⟨ps, rt⟩) (argsL rest : List Value) (ha : argsL.toArray = as') (hal : argsL.length = ps.length) {st : List Value} (hst : st = argsL.reverse ++ rest) {W : Nat} (hW : (rest.map fun v => v.category).sum ≤ W) (hf : rm.frames + 1 ≤ R.frames) (hl : W + (maxL + 11) + rm.locals ≤ R.locals) (hsz : ls.size = c.maxLocals) (hd : decode c.code pc = .ok (.invokestatic idx, 3)) (hc : cells + rm.cells ≤ R.cells) (hs : slots + rm.slots ≤ R.slots) (hpc : pc + 3 = pc')
    (w : ∀ v T' L, Stand p l e R s m args below meth c T' (locs ++ L) (cells + rm.cells) (slots + rm.slots) → Q' v T'.heap L → own_WP p e below s Q k n (T'.setTop (mkF m pc' ls (v.toList ++ rest)))) : own_WP p e below s Q k n (T.setTop (mkF m pc ls st)) := by
  subst hpc hst ha
  obtain ⟨v, vm1, ⟨T', L', k', n'⟩, -, X', ⟨Lc, hQ, l1, y1, z1⟩, stp⟩ := Jvm.LawKit.callS X hx (y := y) hown (mvT hZ w1) (mvT hZ w2) (mvT hZ w3) (mvT hZ w4) hy (backOf (W := W) (C []) hZ w4 w3 hf hl) (g := mkF m pc ls (argsL.reverse ++ rest)) rfl hsz (argsL := argsL) (rest := rest) (lenOf hpd hal) rfl (by show 2 * 0 + _ ≤ _; omega) hd (fun _ _ => ⟨rfl, eT, hc, hs⟩)
  dsimp only [Pt.U, Pt.locs, Pt.cells, Pt.slots] at X' l1 y1 z1 stp hQ
  subst l1 y1 z1
  exact own_of stp (w _ _ _ X' hQ)
theorem own_callN (X : Stand p l e R s m args below meth c T locs cells slots) (hx : p.tables.exec = Jvm.exec) (hZ : Z.Warmed39 s.vm) {own : String} {idx : Nat} {y : MethodName} {bytes : ByteArray} {maxL : Nat} {rm : Room} {as' : Array Value} {Q' : Option Value → Heap → List Loc → Prop} (hy1 : y.name = "<init>") (hown : s.vm.findClass own = some m.cls) (w1 : (Jvm.Cond.methodLink own idx y).before a0 Z = true) (w2 : (Jvm.Cond.instanceMethod y).before a0 Z = true) (w3 : (Jvm.Cond.initialized y.cls).before a0 Z = true) (w4 : (Jvm.Cond.code y bytes maxL none).before a0 Z = true) (hy : y.cls ≠ "java/lang/invoke/MethodHandle" ∧ y.cls ≠ "java/lang/invoke/VarHandle")
    (C : own_Con l Z y bytes maxL none rm as' h Q') (eT : T.heap = h) {ps : List FieldType} {rt : Option FieldType} (hpd : parseMethodDescriptor y.desc = some ⟨ps, rt⟩) (b : Addr) (argsL rest : List Value) (ha : (.ref b :: argsL).toArray = as') (hal : argsL.length = ps.length) {st : List Value} (hst : st = argsL.reverse ++ .ref b :: rest) {W : Nat} (hW : (rest.map fun v => v.category).sum ≤ W) (hf : rm.frames + 1 ≤ R.frames) (hl : W + (maxL + 11) + rm.locals ≤ R.locals) (hsz : ls.size = c.maxLocals) (hd : decode c.code pc = .ok (.invokespecial idx, 3)) (hc : cells + rm.cells ≤ R.cells) (hs : slots + rm.slots ≤ R.slots) (hpc : pc + 3 = pc')
    (w : ∀ v T' L, Stand p l e R s m args below meth c T' (locs ++ L) (cells + rm.cells) (slots + rm.slots) → Q' v T'.heap L → own_WP p e below s Q k n (T'.setTop (mkF m pc' ls (v.toList ++ rest)))) : own_WP p e below s Q k n (T.setTop (mkF m pc ls st)) := by
  subst hpc hst ha
  obtain ⟨v, vm1, ⟨T', L', k', n'⟩, -, X', ⟨Lc, hQ, l1, y1, z1⟩, stp⟩ := X.specialBack hx (y := y) hy1 hown (mvT hZ w1) (mvT hZ w2) (mvT hZ w4) hy (backOf (W := W) (C []) hZ w4 w3 hf hl) (g := mkF m pc ls (argsL.reverse ++ .ref b :: rest)) rfl hsz (Steps.refl _) (a := b) (argsL := argsL) (rest := rest) (lenOf hpd hal) rfl (by show 2 * 0 + _ ≤ _; omega) hd (fun _ _ => ⟨rfl, eT, hc, hs⟩)
  dsimp only [Pt.U, Pt.locs, Pt.cells, Pt.slots] at X' l1 y1 z1 stp hQ
  subst l1 y1 z1
  exact own_of (fun t q => stp.trans q) (w _ _ _ X' hQ)
theorem own_callV (X : Stand p l e R s m args below meth c T locs cells slots) (hx : p.tables.exec = Jvm.exec) (hZ : Z.Warmed39 s.vm) {own D : String} {idx : Nat} {y z : MethodName} {bytes : ByteArray} {maxL : Nat} {ret : Option FieldType} {rm : Room} {as' : Array Value} {Q' : Option Value → Heap → List Loc → Prop} (hown : s.vm.findClass own = some m.cls) (w1 : (Jvm.Cond.methodLink own idx y).before a0 Z = true) (wd : (Jvm.Cond.declares y).before a0 Z = true) (hnf : NotFace s y) (ws : (Jvm.Cond.selects D y z).before a0 Z = true) (w2 : (Jvm.Cond.instanceMethod z).before a0 Z = true) (w3 : (Jvm.Cond.initialized z.cls).before a0 Z = true) (w4 : (Jvm.Cond.code z bytes maxL ret).before a0 Z = true) (hy : y.cls ≠ "java/lang/invoke/MethodHandle" ∧ y.cls ≠ "java/lang/invoke/VarHandle") {b : Addr} (E : Exa Z h b D)
    (C : own_Con l Z z bytes maxL ret rm as' h Q') (eT : T.heap = h) {ps : List FieldType} {rt : Option FieldType} (hpd : parseMethodDescriptor y.desc = some ⟨ps, rt⟩) (argsL rest : List Value) (ha : (.ref b :: argsL).toArray = as') (hal : argsL.length = ps.length) {st : List Value} (hst : st = argsL.reverse ++ .ref b :: rest) {W : Nat} (hW : (rest.map fun v => v.category).sum ≤ W) (hf : rm.frames + 1 ≤ R.frames) (hl : W + (maxL + 11) + rm.locals ≤ R.locals) (hsz : ls.size = c.maxLocals) (hd : decode c.code pc = .ok (.invokevirtual idx, 3)) (hc : cells + rm.cells ≤ R.cells) (hs : slots + rm.slots ≤ R.slots) (hpc : pc + 3 = pc')
    (w : ∀ v T' L, Stand p l e R s m args below meth c T' (locs ++ L) (cells + rm.cells) (slots + rm.slots) → Q' v T'.heap L → own_WP p e below s Q k n (T'.setTop (mkF m pc' ls (v.toList ++ rest)))) : own_WP p e below s Q k n (T.setTop (mkF m pc ls st)) := by
  subst hpc hst ha
  obtain ⟨cq, kq, qa, qb, qc⟩ := isOf (T := T) hZ eT E
  obtain ⟨v, vm1, ⟨T', L', k', n'⟩, -, X', ⟨Lc, hQ, l1, y1, z1⟩, stp⟩ := X.virtualBack hx (y := y) (z := z) hown (mvT hZ w1) (mvT hZ wd) hnf (mvT hZ ws) (mvT hZ w2) hy (backOf (W := W) (C []) hZ w4 w3 hf hl) qa qc (g := mkF m pc ls (argsL.reverse ++ .ref b :: rest)) rfl hsz (Steps.refl _) (argsL := argsL) (rest := rest) (lenOf hpd hal) rfl (by show 2 * 0 + _ ≤ _; omega) hd (fun _ _ => ⟨rfl, eT, hc, hs⟩)
  dsimp only [Pt.U, Pt.locs, Pt.cells, Pt.slots] at X' l1 y1 z1 stp hQ
  subst l1 y1 z1
  exact own_of (fun t q => stp.trans q) (w _ _ _ X' hQ)

theorem own_laload (X : Stand p l e R s m args below meth c T locs cells slots) (hx : p.tables.exec = Jvm.exec) (hZ : Z.Warmed39 s.vm) (eT : T.heap = h) {b : Addr} {kk : ClassId} {z j : Int32} {vs : List Value} {dv v : Value} (F : Arv Z h b kk .long z vs dv) (hj : ¬ j < 0 ∧ j < z) (hv : vs.getD j.toNatClampNeg dv = v) (hd : decode c.code pc = .ok (.laload, 1)) (hpc : pc + 1 = pc') (w : own_WP p e below s Q k n (T.setTop (mkF m pc' ls (v :: rest)))) : own_WP p e below s Q k n (T.setTop (mkF m pc ls (.int j :: .ref b :: rest))) := by
  subst hpc
  obtain ⟨cl, A, q1, S, q3, H, G⟩ := F
  exact own_of (fun t q => X.laload hx (j := j) (v := v) (by rw [eT]; exact A.1) (State.isArrayOf_alike hZ.alike A.2.1) A.2.2 (inb_of S hj) (H.at (inb_of S hj) hv) (g := mkF m pc ls (.int j :: .ref b :: rest)) rfl rfl hd _ q) w
theorem own_baload (X : Stand p l e R s m args below meth c T locs cells slots) (hx : p.tables.exec = Jvm.exec) (hZ : Z.Warmed39 s.vm) (eT : T.heap = h) {b : Addr} {kk : ClassId} {z j : Int32} {vs : List Value} {dv v : Value} (F : Arv Z h b kk .byte z vs dv) (hj : ¬ j < 0 ∧ j < z) (hv : vs.getD j.toNatClampNeg dv = v) (hd : decode c.code pc = .ok (.baload, 1)) (hpc : pc + 1 = pc') (w : own_WP p e below s Q k n (T.setTop (mkF m pc' ls (v :: rest)))) : own_WP p e below s Q k n (T.setTop (mkF m pc ls (.int j :: .ref b :: rest))) := by
  subst hpc
  obtain ⟨cl, A, q1, S, q3, H, G⟩ := F
  exact own_of (fun t q => X.baloadBytes hx (j := j) (v := v) (by rw [eT]; exact A.1) (State.isArrayOf_alike hZ.alike A.2.1) A.2.2 (inb_of S hj) (H.at (inb_of S hj) hv) (g := mkF m pc ls (.int j :: .ref b :: rest)) rfl rfl hd _ q) w
theorem own_iaload (X : Stand p l e R s m args below meth c T locs cells slots) (hx : p.tables.exec = Jvm.exec) (hZ : Z.Warmed39 s.vm) (eT : T.heap = h) {b : Addr} {kk : ClassId} {z j : Int32} {vs : List Value} {dv v : Value} (F : Arv Z h b kk .int z vs dv) (hj : ¬ j < 0 ∧ j < z) (hv : vs.getD j.toNatClampNeg dv = v) (hd : decode c.code pc = .ok (.iaload, 1)) (hpc : pc + 1 = pc') (w : own_WP p e below s Q k n (T.setTop (mkF m pc' ls (v :: rest)))) : own_WP p e below s Q k n (T.setTop (mkF m pc ls (.int j :: .ref b :: rest))) := by
  subst hpc
  obtain ⟨cl, A, q1, S, q3, H, G⟩ := F
  exact own_of (fun t q => X.iaload hx (j := j) (v := v) (by rw [eT]; exact A.1) (State.isArrayOf_alike hZ.alike A.2.1) A.2.2 (inb_of S hj) (H.at (inb_of S hj) hv) (g := mkF m pc ls (.int j :: .ref b :: rest)) rfl rfl hd _ q) w
theorem own_caload (X : Stand p l e R s m args below meth c T locs cells slots) (hx : p.tables.exec = Jvm.exec) (hZ : Z.Warmed39 s.vm) (eT : T.heap = h) {b : Addr} {kk : ClassId} {z j : Int32} {vs : List Value} {dv v : Value} (F : Arv Z h b kk .char z vs dv) (hj : ¬ j < 0 ∧ j < z) (hv : vs.getD j.toNatClampNeg dv = v) (hd : decode c.code pc = .ok (.caload, 1)) (hpc : pc + 1 = pc') (w : own_WP p e below s Q k n (T.setTop (mkF m pc' ls (v :: rest)))) : own_WP p e below s Q k n (T.setTop (mkF m pc ls (.int j :: .ref b :: rest))) := by
  subst hpc
  obtain ⟨cl, A, q1, S, q3, H, G⟩ := F
  exact own_of (fun t q => X.caload hx (j := j) (v := v) (by rw [eT]; exact A.1) (State.isArrayOf_alike hZ.alike A.2.1) A.2.2 (inb_of S hj) (H.at (inb_of S hj) hv) (g := mkF m pc ls (.int j :: .ref b :: rest)) rfl rfl hd _ q) w
theorem own_lastore (X : Stand p l e R s m args below meth c T locs cells slots) (hx : p.tables.exec = Jvm.exec) (hZ : Z.Warmed39 s.vm) (eT : T.heap = h) {b : Addr} {kk : ClassId} {z j : Int32} {vs : List Value} {dv : Value} {x : Int64} (F : Arv Z h b kk .long z vs dv) (hj : ¬ j < 0 ∧ j < z) (i : Nat) (hi : j.toNatClampNeg = i) (hlen : i < vs.length) (hd : decode c.code pc = .ok (.lastore, 1)) (hpc : pc + 1 = pc') (w : ∀ T' h', Stand p l e R s m args below meth c T' (locs ++ [⟨b, j.toNatClampNeg⟩]) cells slots → T'.heap = h' → Wr h h' b j.toNatClampNeg (.long x) → Arv Z h' b kk .long z (vs.set i (.long x)) dv → own_WP p e below s Q k n (T'.setTop (mkF m pc' ls rest))) : own_WP p e below s Q k n (T.setTop (mkF m pc ls (.long x :: .int j :: .ref b :: rest))) := by
  subst hpc
  obtain ⟨cl, A, q1, S, q3, H, G⟩ := F
  obtain ⟨T', h', X', e', W', st⟩ := stJ X hx hZ eT A (j := j) (inb_of S hj) (g := mkF m pc ls (.long x :: .int j :: .ref b :: rest)) rfl rfl hd
  exact own_of st (w T' h' X' e' W' (Arv.set A q1 S q3 H G rfl W' i hi hlen))
theorem own_bastore (X : Stand p l e R s m args below meth c T locs cells slots) (hx : p.tables.exec = Jvm.exec) (hZ : Z.Warmed39 s.vm) (eT : T.heap = h) {b : Addr} {kk : ClassId} {z j : Int32} {vs : List Value} {dv : Value} {x : Int32} (F : Arv Z h b kk .byte z vs dv) (hj : ¬ j < 0 ∧ j < z) (i : Nat) (hi : j.toNatClampNeg = i) (hlen : i < vs.length) (hd : decode c.code pc = .ok (.bastore, 1)) (hpc : pc + 1 = pc') (w : ∀ T' h', Stand p l e R s m args below meth c T' (locs ++ [⟨b, j.toNatClampNeg⟩]) cells slots → T'.heap = h' → Wr h h' b j.toNatClampNeg (.int (nar .byte x)) → Arv Z h' b kk .byte z (vs.set i (.int (nar .byte x))) dv → own_WP p e below s Q k n (T'.setTop (mkF m pc' ls rest))) : own_WP p e below s Q k n (T.setTop (mkF m pc ls (.int x :: .int j :: .ref b :: rest))) := by
  subst hpc
  obtain ⟨cl, A, q1, S, q3, H, G⟩ := F
  obtain ⟨T', h', X', e', W', st⟩ := stB X hx hZ eT A (j := j) (inb_of S hj) (g := mkF m pc ls (.int x :: .int j :: .ref b :: rest)) rfl rfl hd
  exact own_of st (w T' h' X' e' W' (Arv.set A q1 S q3 H G (fits_nar_byte x) W' i hi hlen))
theorem own_iastore (X : Stand p l e R s m args below meth c T locs cells slots) (hx : p.tables.exec = Jvm.exec) (hZ : Z.Warmed39 s.vm) (eT : T.heap = h) {b : Addr} {kk : ClassId} {z j : Int32} {vs : List Value} {dv : Value} {x : Int32} (F : Arv Z h b kk .int z vs dv) (hj : ¬ j < 0 ∧ j < z) (i : Nat) (hi : j.toNatClampNeg = i) (hlen : i < vs.length) (hd : decode c.code pc = .ok (.iastore, 1)) (hpc : pc + 1 = pc') (w : ∀ T' h', Stand p l e R s m args below meth c T' (locs ++ [⟨b, j.toNatClampNeg⟩]) cells slots → T'.heap = h' → Wr h h' b j.toNatClampNeg (.int x) → Arv Z h' b kk .int z (vs.set i (.int x)) dv → own_WP p e below s Q k n (T'.setTop (mkF m pc' ls rest))) : own_WP p e below s Q k n (T.setTop (mkF m pc ls (.int x :: .int j :: .ref b :: rest))) := by
  subst hpc
  obtain ⟨cl, A, q1, S, q3, H, G⟩ := F
  obtain ⟨T', h', X', e', W', st⟩ := stI X hx hZ eT A (j := j) (inb_of S hj) (g := mkF m pc ls (.int x :: .int j :: .ref b :: rest)) rfl rfl hd
  exact own_of st (w T' h' X' e' W' (Arv.set A q1 S q3 H G rfl W' i hi hlen))
theorem own_arrlen (X : Stand p l e R s m args below meth c T locs cells slots) (hx : p.tables.exec = Jvm.exec) (hZ : Z.Warmed39 s.vm) (eT : T.heap = h) {b : Addr} {kk : ClassId} {z : Int32} {vs : List Value} {dv : Value} {ty : FieldType} (F : Arv Z h b kk ty z vs dv) (hd : decode c.code pc = .ok (.arraylength, 1)) (hpc : pc + 1 = pc') (w : own_WP p e below s Q k n (T.setTop (mkF m pc' ls (.int z :: rest)))) : own_WP p e below s Q k n (T.setTop (mkF m pc ls (.ref b :: rest))) := by
  subst hpc
  obtain ⟨cl, A, q1, S, q3, H, G⟩ := F
  refine own_of (fun t q => X.arraylength hx (by rw [eT]; exact A.1) (State.isArrayOf_alike hZ.alike A.2.1) (g := mkF m pc ls (.ref b :: rest)) rfl rfl hd _ ?_) w
  rw [len_of S q3]
  exact q
end OwnWP

def own_expect (k id : Int32) (old : Int64) : Int64 := if k = id then (if old = 9223372036854775807 then old else old + 1) else old
theorem own_exN {k id : Int32} {old : Int64} (h : ¬ k = id) : own_expect k id old = old := if_neg h
theorem own_exY {k : Int32} {old : Int64} (h : old < 9223372036854775807) : own_expect k k old = old + 1 := by
  unfold own_expect
  rw [if_pos rfl, if_neg]
  rintro rfl
  exact absurd h (by decide)
theorem own_exM {k : Int32} {old : Int64} (h : ¬ old < 9223372036854775807) : own_expect k k old = old := by
  unfold own_expect
  rw [if_pos rfl, if_pos]
  apply Int64.toInt_inj.mp
  rw [Int64.lt_iff_toInt_lt] at h
  have := rng64 old
  have e : (9223372036854775807 : Int64).toInt = 9223372036854775807 := by decide
  omega
theorem own_id3 (x v : Int32) (h : v = (x &&& (2147483647 : Int32)) % 3 + 1) : v = 1 ∨ v = 2 ∨ v = 3 := by
  have a := c_and x 2147483647 (by decide)
  have b := (c_irem (x &&& 2147483647) 3 3 (by decide)).1 a.1
  have c := c_iadd ((x &&& 2147483647) % 3) 1
  have d := rng32 ((x &&& 2147483647) % 3 + 1)
  rw [show (1 : Int32).toInt = 1 from by decide] at c
  have e : v.toInt = 1 ∨ v.toInt = 2 ∨ v.toInt = 3 := by rw [h]; omega
  rcases e with e | e | e
  · exact Or.inl (Int32.toInt_inj.mp e)
  · exact Or.inr (Or.inl (Int32.toInt_inj.mp e))
  · exact Or.inr (Or.inr (Int32.toInt_inj.mp e))
theorem own_mode4 (x v : Int32) (h : v = x &&& 3) (h1 : ¬ v = 1) (h2 : ¬ v = 2) (h3 : ¬ v = 3) : v = 0 := by
  have a := c_and x 3 (by decide)
  rw [← h, show (3 : Int32).toInt = 3 from by decide] at a
  apply Int32.toInt_inj.mp
  have b1 : ¬ v.toInt = 1 := fun q => h1 (Int32.toInt_inj.mp q)
  have b2 : ¬ v.toInt = 2 := fun q => h2 (Int32.toInt_inj.mp q)
  have b3 : ¬ v.toInt = 3 := fun q => h3 (Int32.toInt_inj.mp q)
  show v.toInt = 0
  omega

theorem d1_0 : decode prog_19_method_1_code 0 = .ok (.aload_n 0, 1) := by decide +kernel
theorem d1_1 : decode prog_19_method_1_code 1 = .ok (.invokespecial 1, 3) := by decide +kernel
theorem d1_4 : decode prog_19_method_1_code 4 = .ok (.aload_n 0, 1) := by decide +kernel
theorem d1_5 : decode prog_19_method_1_code 5 = .ok (.iload_n 1, 1) := by decide +kernel
theorem d1_6 : decode prog_19_method_1_code 6 = .ok (.newarray .long, 2) := by decide +kernel
theorem d1_8 : decode prog_19_method_1_code 8 = .ok (.putfield 7, 3) := by decide +kernel
theorem d1_11 : decode prog_19_method_1_code 11 = .ok (.return_, 1) := by decide +kernel
theorem pn_1 : plainFor (⟨"com/example/eventual_leader/eventualleader/election/RecoveryCounts", "<init>", "(I)V"⟩ : MethodName) = true := plainFor_of_name (by first | (simp [plainName, overriddenIn]; done) | decide +kernel)
theorem ef_conI (m : MethodId) (a1 : Addr) : entryFrame m #[(.ref a1), (.int (3 : Int32))] 2 = mkF m 0 #[.val (.ref a1), .val (.int (3 : Int32))] [] := by first | (simp [entryFrame, mkF, argsToLocals, Value.category]; done) | rfl
set_option maxRecDepth 65536 in
set_option maxHeartbeats 4000000 in
theorem conI (l : Launch) (Z : State) (a0 : Array Value) (hw : ∀ d ∈ tables_1, d.before a0 Z = true) (a1 : Addr) (h0 : Heap) (n0 : Nat) (Z0 : n0 ≤ h0.size) (E1 : Exa Z h0 a1 "com/example/eventual_leader/eventualleader/election/RecoveryCounts") (F1 : Fld Z h0 a1 "com/example/eventual_leader/eventualleader/election/RecoveryCounts" "counts" "[J" .null) (g_a1 : n0 ≤ a1) :
    own_Con l Z (⟨"com/example/eventual_leader/eventualleader/election/RecoveryCounts", "<init>", "(I)V"⟩ : MethodName) prog_19_method_1_code 2 none ({ frames := 1, cells := 1, slots := 3, locals := 12 } : Room) #[(.ref a1), (.int (3 : Int32))] h0 (fun v h L => ∃ (b : Addr) (kk : ClassId), v = none ∧ Fr n0 L ∧ Keep h0 h [a1] ∧ Exa Z h a1 "com/example/eventual_leader/eventualleader/election/RecoveryCounts" ∧ Fld Z h a1 "com/example/eventual_leader/eventualleader/election/RecoveryCounts" "counts" "[J" (.ref b) ∧ Arv Z h b kk .long 3 [.long 0, .long 0, .long 0] (.long 0) ∧ n0 ≤ b ∧ h0.size ≤ b) := by
  refine own_Con_of pn_1 ?_
  intro p e s m below meth c s₁ X0 hx hby hml hret hlk hnm hown hZ e0
  have hown : s.vm.findClass "com/example/eventual_leader/eventualleader/election/RecoveryCounts" = some m.cls := hown
  have hml : c.maxLocals = 2 := hml
  have N0 := Fr.nil n0
  show own_WP _ _ _ _ _ _ _ (s₁.setTop (entryFrame m #[(.ref a1), (.int (3 : Int32))] 2))
  rw [ef_conI m a1]
  refine own_aloadN (pc' := 1) X0 hx (hb hby d1_0) rfl rfl rfl ?_
  refine own_initO (pc' := 4) (W := 0) X0 hx hZ hown (own_w hw 8 rfl) (own_w hw 9 rfl) (own_w hw 10 rfl) e0 (by rw [hml]; rfl) (hb hby d1_1) (by decide) (Nat.le_of_eq rfl) (by decide) rfl ?_
  intro T1 X1 e1
  refine own_aloadN (pc' := 5) X1 hx (hb hby d1_4) rfl rfl rfl ?_
  refine own_iloadN (pc' := 6) X1 hx (hb hby d1_5) rfl rfl ?_
  refine own_newP (pc' := 8) (cap := 3) X1 hx hZ (own_w hw 1 rfl) e1 (hb hby d1_6) (by decide) (by decide) (by decide) (by decide) (by decide) rfl ?_
  intro T2 h2 k2 b2 g2 X2 e2 E2 A2
  have ne_a1_b2 : a1 ≠ b2 := Nat.ne_of_lt (Nat.lt_of_lt_of_le E1.lt (Nat.le_of_eq g2.symm))
  have ne_b2_a1 := ne_a1_b2.symm
  have g_b2 : n0 ≤ b2 := Nat.le_trans Z0 (Nat.le_of_eq g2.symm)
  have sz_b2 : h0.size ≤ b2 := Nat.le_trans (Keep.refl h0 [a1]).1 (Nat.le_of_eq g2.symm)
  have z2 : n0 ≤ h2.size := Nat.le_trans Z0 E2.1
  have K2 : Keep h0 h2 [a1] := (Keep.refl h0 [a1]).ext E2
  have V2 : Arv Z h2 b2 k2 .long (3 : Int32) [(.long (0 : Int64)), (.long (0 : Int64)), (.long (0 : Int64))] (.long (0 : Int64)) := (Arv.new A2 (by decide)).pad (pad_rep [] (.long (0 : Int64)) 3)
  have f3 := (F1.ext E2)
  have f4 := (E1.ext E2)
  refine own_putF (pc' := 11) X2 hx hZ hown (host := "") (Or.inl (own_w hw 11 rfl)) Via.refl e2 f3 f4 (Or.inr ⟨(own_w hw 12 rfl), rfl, hnm⟩) (own_w hw 3 rfl) (ty := (.array .long)) (by decide +kernel) rfl rfl (hb hby d1_8) rfl ?_
  intro T5 h5 X5 e5 W5
  have z5 : n0 ≤ h5.size := Nat.le_trans z2 (Keep.of_wr W5).1
  have F5 := f3.same W5
  have N5 := Fr.snoc X5 N0 g_a1
  have K5 : Keep h0 h5 [a1] := K2.wr W5 (Or.inl (List.mem_of_getElem? (i := 0) rfl))
  have f6 := (f4.wr W5)
  have f7 := (V2.other W5 ne_b2_a1)
  refine own_ret0 X5 hx hlk hret (hb hby d1_11) (by decide) (by decide) ?_
  rw [e5]
  exact ⟨b2, k2, rfl, N5, K5, f6, F5, f7, g_b2, sz_b2⟩
theorem d3_0 : decode prog_19_method_3_code 0 = .ok (.aload_n 0, 1) := by decide +kernel
theorem d3_1 : decode prog_19_method_3_code 1 = .ok (.getfield 7, 3) := by decide +kernel
theorem d3_4 : decode prog_19_method_3_code 4 = .ok (.iload_n 1, 1) := by decide +kernel
theorem d3_5 : decode prog_19_method_3_code 5 = .ok (.iconst 1, 1) := by decide +kernel
theorem d3_6 : decode prog_19_method_3_code 6 = .ok (.isub, 1) := by decide +kernel
theorem d3_7 : decode prog_19_method_3_code 7 = .ok (.lload_n 2, 1) := by decide +kernel
theorem d3_8 : decode prog_19_method_3_code 8 = .ok (.lastore, 1) := by decide +kernel
theorem d3_9 : decode prog_19_method_3_code 9 = .ok (.return_, 1) := by decide +kernel
theorem pn_3 : plainFor (⟨"com/example/eventual_leader/eventualleader/election/RecoveryCounts", "set", "(IJ)V"⟩ : MethodName) = true := plainFor_of_name (by first | (simp [plainName, overriddenIn]; done) | decide +kernel)
theorem ef_conS (m : MethodId) (a1 : Addr) (i1 : Int32) (w1 : Int64) : entryFrame m #[(.ref a1), (.int i1), (.long w1)] 4 = mkF m 0 #[.val (.ref a1), .val (.int i1), .val (.long w1), .second] [] := by first | (simp [entryFrame, mkF, argsToLocals, Value.category]; done) | rfl
set_option maxRecDepth 65536 in
set_option maxHeartbeats 4000000 in
theorem conS (l : Launch) (Z : State) (a0 : Array Value) (hw : ∀ d ∈ tables_1, d.before a0 Z = true) (a1 : Addr) (i1 : Int32) (w1 : Int64) (h0 : Heap) (n0 : Nat) (Z0 : n0 ≤ h0.size) (b : Addr) (kk : ClassId) (vs : List Value) (F1 : Fld Z h0 a1 "com/example/eventual_leader/eventualleader/election/RecoveryCounts" "counts" "[J" (.ref b)) (V1 : Arv Z h0 b kk .long 3 vs (.long 0)) (k : Nat) (hj : ¬ (i1 - 1) < 0 ∧ (i1 - 1) < 3) (hk : (i1 - 1).toNatClampNeg = k) (hlen : k < vs.length) (g_b : n0 ≤ b) :
    own_Con l Z (⟨"com/example/eventual_leader/eventualleader/election/RecoveryCounts", "set", "(IJ)V"⟩ : MethodName) prog_19_method_3_code 4 none ({ frames := 0, cells := 0, slots := 0, locals := 0 } : Room) #[(.ref a1), (.int i1), (.long w1)] h0 (fun v h L => v = none ∧ Fr n0 L ∧ Keep h0 h [b] ∧ Arv Z h b kk .long 3 (vs.set k (.long w1)) (.long 0)) := by
  refine own_Con_of pn_3 ?_
  intro p e s m below meth c s₁ X0 hx hby hml hret hlk hnm hown hZ e0
  have hown : s.vm.findClass "com/example/eventual_leader/eventualleader/election/RecoveryCounts" = some m.cls := hown
  have hml : c.maxLocals = 4 := hml
  have N0 := Fr.nil n0
  show own_WP _ _ _ _ _ _ _ (s₁.setTop (entryFrame m #[(.ref a1), (.int i1), (.long w1)] 4))
  rw [ef_conS m a1 i1 w1]
  refine own_aloadN (pc' := 1) X0 hx (hb hby d3_0) rfl rfl rfl ?_
  refine own_getF (pc' := 4) X0 hx hZ hown (host := "") (Or.inl (own_w hw 11 rfl)) Via.refl e0 F1 (hb hby d3_1) rfl ?_
  intro T1 X1 e1
  refine own_iloadN (pc' := 5) X1 hx (hb hby d3_4) rfl rfl ?_
  refine own_iconst (pc' := 6) X1 hx (1 : Int32) (hb hby d3_5) rfl rfl ?_
  refine own_isub (pc' := 7) X1 hx (hb hby d3_6) rfl ?_
  refine own_lloadN (pc' := 8) X1 hx (hb hby d3_7) rfl rfl ?_
  refine own_lastore (pc' := 9) X1 hx hZ e1 V1 hj k hk hlen (hb hby d3_8) rfl ?_
  intro T2 h2 X2 e2 W2 V2
  have z2 : n0 ≤ h2.size := Nat.le_trans Z0 (Keep.of_wr W2).1
  have N2 := Fr.snoc X2 N0 g_b
  have K2 : Keep h0 h2 [b] := (Keep.refl h0 [b]).wr W2 (Or.inl (List.mem_of_getElem? (i := 0) rfl))
  refine own_ret0 X2 hx hlk hret (hb hby d3_9) (by decide) (by decide) ?_
  rw [e2]
  exact ⟨rfl, N2, K2, V2⟩
theorem d4_0 : decode prog_19_method_4_code 0 = .ok (.aload_n 0, 1) := by decide +kernel
theorem d4_1 : decode prog_19_method_4_code 1 = .ok (.getfield 7, 3) := by decide +kernel
theorem d4_4 : decode prog_19_method_4_code 4 = .ok (.iload_n 1, 1) := by decide +kernel
theorem d4_5 : decode prog_19_method_4_code 5 = .ok (.iconst 1, 1) := by decide +kernel
theorem d4_6 : decode prog_19_method_4_code 6 = .ok (.isub, 1) := by decide +kernel
theorem d4_7 : decode prog_19_method_4_code 7 = .ok (.laload, 1) := by decide +kernel
theorem d4_8 : decode prog_19_method_4_code 8 = .ok (.ldc2_w 15, 3) := by decide +kernel
theorem d4_11 : decode prog_19_method_4_code 11 = .ok (.lcmp, 1) := by decide +kernel
theorem d4_12 : decode prog_19_method_4_code 12 = .ok (.ifCond .ge 15, 3) := by decide +kernel
theorem d4_15 : decode prog_19_method_4_code 15 = .ok (.aload_n 0, 1) := by decide +kernel
theorem d4_16 : decode prog_19_method_4_code 16 = .ok (.getfield 7, 3) := by decide +kernel
theorem d4_19 : decode prog_19_method_4_code 19 = .ok (.iload_n 1, 1) := by decide +kernel
theorem d4_20 : decode prog_19_method_4_code 20 = .ok (.iconst 1, 1) := by decide +kernel
theorem d4_21 : decode prog_19_method_4_code 21 = .ok (.isub, 1) := by decide +kernel
theorem d4_22 : decode prog_19_method_4_code 22 = .ok (.dup2, 1) := by decide +kernel
theorem d4_23 : decode prog_19_method_4_code 23 = .ok (.laload, 1) := by decide +kernel
theorem d4_24 : decode prog_19_method_4_code 24 = .ok (.lconst 1, 1) := by decide +kernel
theorem d4_25 : decode prog_19_method_4_code 25 = .ok (.ladd, 1) := by decide +kernel
theorem d4_26 : decode prog_19_method_4_code 26 = .ok (.lastore, 1) := by decide +kernel
theorem d4_27 : decode prog_19_method_4_code 27 = .ok (.return_, 1) := by decide +kernel
theorem pn_4 : plainFor (⟨"com/example/eventual_leader/eventualleader/election/RecoveryCounts", "increment", "(I)V"⟩ : MethodName) = true := plainFor_of_name (by first | (simp [plainName, overriddenIn]; done) | decide +kernel)
theorem ef_conN (m : MethodId) (a1 : Addr) (i1 : Int32) : entryFrame m #[(.ref a1), (.int i1)] 2 = mkF m 0 #[.val (.ref a1), .val (.int i1)] [] := by first | (simp [entryFrame, mkF, argsToLocals, Value.category]; done) | rfl
set_option maxRecDepth 65536 in
set_option maxHeartbeats 4000000 in
theorem conN (l : Launch) (Z : State) (a0 : Array Value) (hw : ∀ d ∈ tables_1, d.before a0 Z = true) (a1 : Addr) (i1 : Int32) (h0 : Heap) (n0 : Nat) (Z0 : n0 ≤ h0.size) (b : Addr) (kk : ClassId) (vs : List Value) (F1 : Fld Z h0 a1 "com/example/eventual_leader/eventualleader/election/RecoveryCounts" "counts" "[J" (.ref b)) (V1 : Arv Z h0 b kk .long 3 vs (.long 0)) (k : Nat) (hj : ¬ (i1 - 1) < 0 ∧ (i1 - 1) < 3) (hk : (i1 - 1).toNatClampNeg = k) (hlen : k < vs.length) (g_b : n0 ≤ b) (x : Int64) (hx1 : vs.getD k (.long 0) = .long x) :
    own_Con l Z (⟨"com/example/eventual_leader/eventualleader/election/RecoveryCounts", "increment", "(I)V"⟩ : MethodName) prog_19_method_4_code 2 none ({ frames := 0, cells := 0, slots := 0, locals := 0 } : Room) #[(.ref a1), (.int i1)] h0 (fun v h L => v = none ∧ Fr n0 L ∧ Keep h0 h [b] ∧ Arv Z h b kk .long 3 (if x < (9223372036854775807 : Int64) then vs.set k (.long (x + 1)) else vs) (.long 0)) := by
  refine own_Con_of pn_4 ?_
  intro p e s m below meth c s₁ X0 hx hby hml hret hlk hnm hown hZ e0
  have hown : s.vm.findClass "com/example/eventual_leader/eventualleader/election/RecoveryCounts" = some m.cls := hown
  have hml : c.maxLocals = 2 := hml
  have N0 := Fr.nil n0
  show own_WP _ _ _ _ _ _ _ (s₁.setTop (entryFrame m #[(.ref a1), (.int i1)] 2))
  rw [ef_conN m a1 i1]
  refine own_aloadN (pc' := 1) X0 hx (hb hby d4_0) rfl rfl rfl ?_
  refine own_getF (pc' := 4) X0 hx hZ hown (host := "") (Or.inl (own_w hw 11 rfl)) Via.refl e0 F1 (hb hby d4_1) rfl ?_
  intro T1 X1 e1
  refine own_iloadN (pc' := 5) X1 hx (hb hby d4_4) rfl rfl ?_
  refine own_iconst (pc' := 6) X1 hx (1 : Int32) (hb hby d4_5) rfl rfl ?_
  refine own_isub (pc' := 7) X1 hx (hb hby d4_6) rfl ?_
  refine own_laload (pc' := 8) (v := (.long x)) X1 hx hZ e1 V1 hj (by rw [hk]; exact hx1) (hb hby d4_7) rfl ?_
  refine own_ldc2Long (pc' := 11) X1 hx hZ hown (own_w hw 23 rfl) (hb hby d4_8) rfl ?_
  refine own_lcmp (pc' := 12) X1 hx (hb hby d4_11) rfl ?_
  refine own_ifl_ge (pt := 27) (pf := 15) X1 hx (hb hby d4_12) rfl (by decide) rfl (fun hc12 => ?_) (fun hc12 => ?_)
  · skip
    refine own_ret0 X1 hx hlk hret (hb hby d4_27) (by decide) (by decide) ?_
    rw [e1]
    rw [if_neg hc12]
    exact ⟨rfl, N0, (Keep.refl h0 [b]), V1⟩
  · skip
    refine own_aloadN (pc' := 16) X1 hx (hb hby d4_15) rfl rfl rfl ?_
    refine own_getF (pc' := 19) X1 hx hZ hown (host := "") (Or.inl (own_w hw 11 rfl)) Via.refl e1 F1 (hb hby d4_16) rfl ?_
    intro T2 X2 e2
    refine own_iloadN (pc' := 20) X2 hx (hb hby d4_19) rfl rfl ?_
    refine own_iconst (pc' := 21) X2 hx (1 : Int32) (hb hby d4_20) rfl rfl ?_
    refine own_isub (pc' := 22) X2 hx (hb hby d4_21) rfl ?_
    refine own_dup2 (pc' := 23) X2 hx (hb hby d4_22) rfl rfl rfl ?_
    refine own_laload (pc' := 24) (v := (.long x)) X2 hx hZ e2 V1 hj (by rw [hk]; exact hx1) (hb hby d4_23) rfl ?_
    refine own_lconst1 (pc' := 25) X2 hx (hb hby d4_24) rfl ?_
    refine own_ladd (pc' := 26) X2 hx (hb hby d4_25) rfl ?_
    obtain ⟨v4, hv4⟩ : ∃ z : Int64, z = (x + (1 : Int64)) := ⟨_, rfl⟩
    rw [← hv4]
    refine own_lastore (pc' := 27) X2 hx hZ e2 V1 hj k hk hlen (hb hby d4_26) rfl ?_
    intro T3 h3 X3 e3 W3 V3
    have z3 : n0 ≤ h3.size := Nat.le_trans Z0 (Keep.of_wr W3).1
    have N3 := Fr.snoc X3 N0 g_b
    have K3 : Keep h0 h3 [b] := (Keep.refl h0 [b]).wr W3 (Or.inl (List.mem_of_getElem? (i := 0) rfl))
    refine own_ret0 X3 hx hlk hret (hb hby d4_27) (by decide) (by decide) ?_
    rw [e3]
    rw [if_pos hc12]
    subst_vars
    exact ⟨rfl, N3, K3, V3⟩
theorem d5_0 : decode prog_19_method_2_code 0 = .ok (.aload_n 0, 1) := by decide +kernel
theorem d5_1 : decode prog_19_method_2_code 1 = .ok (.getfield 7, 3) := by decide +kernel
theorem d5_4 : decode prog_19_method_2_code 4 = .ok (.iload_n 1, 1) := by decide +kernel
theorem d5_5 : decode prog_19_method_2_code 5 = .ok (.iconst 1, 1) := by decide +kernel
theorem d5_6 : decode prog_19_method_2_code 6 = .ok (.isub, 1) := by decide +kernel
theorem d5_7 : decode prog_19_method_2_code 7 = .ok (.laload, 1) := by decide +kernel
theorem d5_8 : decode prog_19_method_2_code 8 = .ok (.lreturn, 1) := by decide +kernel
theorem pn_5 : plainFor (⟨"com/example/eventual_leader/eventualleader/election/RecoveryCounts", "of", "(I)J"⟩ : MethodName) = true := plainFor_of_name (by first | (simp [plainName, overriddenIn]; done) | decide +kernel)
theorem ef_conO (m : MethodId) (a1 : Addr) (i1 : Int32) : entryFrame m #[(.ref a1), (.int i1)] 2 = mkF m 0 #[.val (.ref a1), .val (.int i1)] [] := by first | (simp [entryFrame, mkF, argsToLocals, Value.category]; done) | rfl
set_option maxRecDepth 65536 in
set_option maxHeartbeats 4000000 in
theorem conO (l : Launch) (Z : State) (a0 : Array Value) (hw : ∀ d ∈ tables_1, d.before a0 Z = true) (a1 : Addr) (i1 : Int32) (h0 : Heap) (b : Addr) (kk : ClassId) (vs : List Value) (F1 : Fld Z h0 a1 "com/example/eventual_leader/eventualleader/election/RecoveryCounts" "counts" "[J" (.ref b)) (V1 : Arv Z h0 b kk .long 3 vs (.long 0)) (k : Nat) (hj : ¬ (i1 - 1) < 0 ∧ (i1 - 1) < 3) (hk : (i1 - 1).toNatClampNeg = k) (x : Int64) (hx1 : vs.getD k (.long 0) = .long x) :
    own_Con l Z (⟨"com/example/eventual_leader/eventualleader/election/RecoveryCounts", "of", "(I)J"⟩ : MethodName) prog_19_method_2_code 2 (some .long) ({ frames := 0, cells := 0, slots := 0, locals := 0 } : Room) #[(.ref a1), (.int i1)] h0 (fun v h L => ∃ z : Int64, v = some (.long z) ∧ z = x ∧ L = [] ∧ h = h0) := by
  refine own_Con_of pn_5 ?_
  intro p e s m below meth c s₁ X0 hx hby hml hret hlk hnm hown hZ e0
  have hown : s.vm.findClass "com/example/eventual_leader/eventualleader/election/RecoveryCounts" = some m.cls := hown
  have hml : c.maxLocals = 2 := hml
  show own_WP _ _ _ _ _ _ _ (s₁.setTop (entryFrame m #[(.ref a1), (.int i1)] 2))
  rw [ef_conO m a1 i1]
  refine own_aloadN (pc' := 1) X0 hx (hb hby d5_0) rfl rfl rfl ?_
  refine own_getF (pc' := 4) X0 hx hZ hown (host := "") (Or.inl (own_w hw 11 rfl)) Via.refl e0 F1 (hb hby d5_1) rfl ?_
  intro T1 X1 e1
  refine own_iloadN (pc' := 5) X1 hx (hb hby d5_4) rfl rfl ?_
  refine own_iconst (pc' := 6) X1 hx (1 : Int32) (hb hby d5_5) rfl rfl ?_
  refine own_isub (pc' := 7) X1 hx (hb hby d5_6) rfl ?_
  refine own_laload (pc' := 8) (v := (.long x)) X1 hx hZ e1 V1 hj (by rw [hk]; exact hx1) (hb hby d5_7) rfl ?_
  refine own_retJ X1 hx hlk hret (hb hby d5_8) (by decide) (by decide) ?_
  exact ⟨x, rfl, rfl, rfl, e1⟩
theorem d6_0 : decode method_2_code 0 = .ok (.iload_n 0, 1) := by decide +kernel
theorem d6_1 : decode method_2_code 1 = .ok (.iload_n 1, 1) := by decide +kernel
theorem d6_2 : decode method_2_code 2 = .ok (.if_icmp .eq 5, 3) := by decide +kernel
theorem d6_5 : decode method_2_code 5 = .ok (.lload_n 2, 1) := by decide +kernel
theorem d6_6 : decode method_2_code 6 = .ok (.lreturn, 1) := by decide +kernel
theorem d6_7 : decode method_2_code 7 = .ok (.lload_n 2, 1) := by decide +kernel
theorem d6_8 : decode method_2_code 8 = .ok (.ldc2_w 9, 3) := by decide +kernel
theorem d6_11 : decode method_2_code 11 = .ok (.lcmp, 1) := by decide +kernel
theorem d6_12 : decode method_2_code 12 = .ok (.ifCond .ne 5, 3) := by decide +kernel
theorem d6_15 : decode method_2_code 15 = .ok (.lload_n 2, 1) := by decide +kernel
theorem d6_16 : decode method_2_code 16 = .ok (.lreturn, 1) := by decide +kernel
theorem d6_17 : decode method_2_code 17 = .ok (.lload_n 2, 1) := by decide +kernel
theorem d6_18 : decode method_2_code 18 = .ok (.lconst 1, 1) := by decide +kernel
theorem d6_19 : decode method_2_code 19 = .ok (.ladd, 1) := by decide +kernel
theorem d6_20 : decode method_2_code 20 = .ok (.lreturn, 1) := by decide +kernel
theorem pn_6 : plainFor (⟨"com/example/eventual_leader/eventualleader/election/RecoveryCountsIncrementPinLaw", "expect", "(IIJ)J"⟩ : MethodName) = true := plainFor_of_name (by first | (simp [plainName, overriddenIn]; done) | decide +kernel)
theorem ef_conX (m : MethodId) (c1 : Int32) (c2 : Int32) (c3 : Int64) : entryFrame m #[(.int c1), (.int c2), (.long c3)] 4 = mkF m 0 #[.val (.int c1), .val (.int c2), .val (.long c3), .second] [] := by first | (simp [entryFrame, mkF, argsToLocals, Value.category]; done) | rfl
set_option maxRecDepth 65536 in
set_option maxHeartbeats 4000000 in
theorem conX (l : Launch) (Z : State) (a0 : Array Value) (hw : ∀ d ∈ tables_1, d.before a0 Z = true) (c1 : Int32) (c2 : Int32) (c3 : Int64) (h0 : Heap) :
    own_Con l Z (⟨"com/example/eventual_leader/eventualleader/election/RecoveryCountsIncrementPinLaw", "expect", "(IIJ)J"⟩ : MethodName) method_2_code 4 (some .long) ({ frames := 0, cells := 0, slots := 0, locals := 0 } : Room) #[(.int c1), (.int c2), (.long c3)] h0 (fun v h L => ∃ z : Int64, v = some (.long z) ∧ z = own_expect c1 c2 c3 ∧ L = [] ∧ h = h0) := by
  refine own_Con_of pn_6 ?_
  intro p e s m below meth c s₁ X0 hx hby hml hret hlk hnm hown hZ e0
  have hown : s.vm.findClass "com/example/eventual_leader/eventualleader/election/RecoveryCountsIncrementPinLaw" = some m.cls := hown
  have hml : c.maxLocals = 4 := hml
  show own_WP _ _ _ _ _ _ _ (s₁.setTop (entryFrame m #[(.int c1), (.int c2), (.long c3)] 4))
  rw [ef_conX m c1 c2 c3]
  refine own_iloadN (pc' := 1) X0 hx (hb hby d6_0) rfl rfl ?_
  refine own_iloadN (pc' := 2) X0 hx (hb hby d6_1) rfl rfl ?_
  refine own_icmp_eq (pt := 7) (pf := 5) X0 hx (hb hby d6_2) rfl (by decide) rfl (fun hc2 => ?_) (fun hc2 => ?_)
  · skip
    refine own_lloadN (pc' := 8) X0 hx (hb hby d6_7) rfl rfl ?_
    refine own_ldc2Long (pc' := 11) X0 hx hZ hown (own_w hw 33 rfl) (hb hby d6_8) rfl ?_
    refine own_lcmp (pc' := 12) X0 hx (hb hby d6_11) rfl ?_
    refine own_ifl_ne (pt := 17) (pf := 15) X0 hx (hb hby d6_12) rfl (by decide) rfl (fun hc12 => ?_) (fun hc12 => ?_)
    · skip
      refine own_lloadN (pc' := 18) X0 hx (hb hby d6_17) rfl rfl ?_
      refine own_lconst1 (pc' := 19) X0 hx (hb hby d6_18) rfl ?_
      refine own_ladd (pc' := 20) X0 hx (hb hby d6_19) rfl ?_
      refine own_retJ X0 hx hlk hret (hb hby d6_20) (by decide) (by decide) ?_
      exact ⟨(c3 + (1 : Int64)), rfl, by simp [own_expect, hc2, hc12], rfl, e0⟩
    · skip
      refine own_lloadN (pc' := 16) X0 hx (hb hby d6_15) rfl rfl ?_
      refine own_retJ X0 hx hlk hret (hb hby d6_16) (by decide) (by decide) ?_
      exact ⟨c3, rfl, by simp [own_expect, hc2, hc12], rfl, e0⟩
  · skip
    refine own_lloadN (pc' := 6) X0 hx (hb hby d6_5) rfl rfl ?_
    refine own_retJ X0 hx hlk hret (hb hby d6_6) (by decide) (by decide) ?_
    exact ⟨c3, rfl, by simp [own_expect, hc2], rfl, e0⟩
theorem pn_0 : plainFor x = true := plainFor_of_name (by first | (simp [plainName, overriddenIn]; done) | decide +kernel)
theorem ef_con0 (m : MethodId) (p0 : Int64) (p1 : Int64) (p2 : Int64) (p3 : Int32) : entryFrame m #[(.long p0), (.long p1), (.long p2), (.int p3)] 11 = mkF m 0 #[.val (.long p0), .second, .val (.long p1), .second, .val (.long p2), .second, .val (.int p3), .unset, .unset, .unset, .unset] [] := by first | (simp [entryFrame, mkF, argsToLocals, Value.category]; done) | rfl
theorem pd0 : parseMethodDescriptor "(I)V" = some ⟨[.int], none⟩ := by decide +kernel
theorem pd1 : parseMethodDescriptor "(IJ)V" = some ⟨[.int, .long], none⟩ := by decide +kernel
theorem pd2 : parseMethodDescriptor "(I)J" = some ⟨[.int], some .long⟩ := by decide +kernel
theorem pd3 : parseMethodDescriptor "(IIJ)J" = some ⟨[.int, .int, .long], some .long⟩ := by decide +kernel
set_option maxRecDepth 65536 in
set_option maxHeartbeats 4000000 in
theorem con0 (l : Launch) (Z : State) (a0 : Array Value) (hw : ∀ d ∈ tables_1, d.before a0 Z = true) (p0 : Int64) (p1 : Int64) (p2 : Int64) (p3 : Int32) (h0 : Heap) (n0 : Nat) (Z0 : n0 ≤ h0.size) :
    own_Con l Z x code maxLocals ret room_1 #[(.long p0), (.long p1), (.long p2), (.int p3)] h0 (fun v h L => v = some (.int 1) ∧ Fr n0 L) := by
  refine own_Con_of pn_0 ?_
  intro p e s m below meth c s₁ X0 hx hby hml hret hlk hnm hown hZ e0
  have hown : s.vm.findClass "com/example/eventual_leader/eventualleader/election/RecoveryCountsIncrementPinLaw" = some m.cls := hown
  have hml : c.maxLocals = 11 := hml
  have hret : meth.sig.returnType = (some .boolean) := hret
  have N0 := Fr.nil n0
  show own_WP _ _ _ _ _ _ _ (s₁.setTop (entryFrame m #[(.long p0), (.long p1), (.long p2), (.int p3)] 11))
  rw [ef_con0 m p0 p1 p2 p3]
  refine own_iload (pc' := 2) X0 hx (hb hby at_0) rfl rfl ?_
  refine own_ldcInt (pc' := 4) X0 hx hZ hown (own_w hw 0 rfl) (hb hby at_2) rfl ?_
  refine own_iand (pc' := 5) X0 hx (hb hby at_4) rfl ?_
  refine own_iconst (pc' := 6) X0 hx (3 : Int32) (hb hby at_5) rfl rfl ?_
  refine own_irem (pc' := 7) X0 hx (hb hby at_6) (by decide) rfl ?_
  refine own_iconst (pc' := 8) X0 hx (1 : Int32) (hb hby at_7) rfl rfl ?_
  refine own_iadd (pc' := 9) X0 hx (hb hby at_8) rfl ?_
  obtain ⟨v1, hv1⟩ : ∃ z : Int32, z = (((p3 &&& (2147483647 : Int32)) % (3 : Int32)) + (1 : Int32)) := ⟨_, rfl⟩
  refine own_istore (pc' := 11) (l' := #[.val (.long p0), .second, .val (.long p1), .second, .val (.long p2), .second, .val (.int p3), .val (.int v1), .unset, .unset, .unset]) X0 hx (hb hby at_9) hv1 rfl rfl ?_
  rcases own_id3 _ _ hv1 with hid | hid | hid
  · subst hid
    show own_WP _ _ _ _ _ _ _ (s₁.setTop (mkF m 11 #[.val (.long p0), .second, .val (.long p1), .second, .val (.long p2), .second, .val (.int p3), .val (.int (1 : Int32)), .unset, .unset, .unset] []))
    refine own_iload (pc' := 13) X0 hx (hb hby at_11) rfl rfl ?_
    refine own_bipush (pc' := 15) X0 hx (8 : Int32) (hb hby at_13) rfl rfl ?_
    refine own_iushr (pc' := 16) X0 hx (hb hby at_15) rfl ?_
    refine own_iconst (pc' := 17) X0 hx (3 : Int32) (hb hby at_16) rfl rfl ?_
    refine own_iand (pc' := 18) X0 hx (hb hby at_17) rfl ?_
    obtain ⟨v2, hv2⟩ : ∃ z : Int32, z = (((p3.toUInt32 >>> ((8 : Int32) &&& 31).toUInt32).toInt32) &&& (3 : Int32)) := ⟨_, rfl⟩
    refine own_istore (pc' := 20) (l' := #[.val (.long p0), .second, .val (.long p1), .second, .val (.long p2), .second, .val (.int p3), .val (.int (1 : Int32)), .val (.int v2), .unset, .unset]) X0 hx (hb hby at_18) hv2 rfl rfl ?_
    refine own_iconst (pc' := 21) X0 hx (3 : Int32) (hb hby at_20) rfl rfl ?_
    refine own_newP (pc' := 23) (cap := 3) X0 hx hZ (own_w hw 1 rfl) e0 (hb hby at_21) (by decide) (by decide) (by decide) (by decide) (by decide) rfl ?_
    intro T3 h3 k3 b3 g3 X3 e3 E3 A3
    have g_b3 : n0 ≤ b3 := Nat.le_trans Z0 (Nat.le_of_eq g3.symm)
    have z3 : n0 ≤ h3.size := Nat.le_trans Z0 E3.1
    have V3 : Arv Z h3 b3 k3 .long (3 : Int32) [(.long (0 : Int64)), (.long (0 : Int64)), (.long (0 : Int64))] (.long (0 : Int64)) := (Arv.new A3 (by decide)).pad (pad_rep [] (.long (0 : Int64)) 3)
    refine own_dup (pc' := 24) X3 hx (hb hby at_23) rfl rfl ?_
    refine own_iconst (pc' := 25) X3 hx (0 : Int32) (hb hby at_24) rfl rfl ?_
    refine own_lloadN (pc' := 26) X3 hx (hb hby at_25) rfl rfl ?_
    refine own_lastore (pc' := 27) X3 hx hZ e3 V3 ⟨by decide, by decide⟩ 0 rfl (Nat.le_of_ble_eq_true rfl) (hb hby at_26) rfl ?_
    intro T4 h4 X4 e4 W4 V4
    have z4 : n0 ≤ h4.size := Nat.le_trans z3 (Keep.of_wr W4).1
    have V4 : Arv Z h4 b3 k3 .long (3 : Int32) [(.long p0), (.long (0 : Int64)), (.long (0 : Int64))] (.long (0 : Int64)) := V4
    have N4 := Fr.snoc X4 N0 g_b3
    refine own_dup (pc' := 28) X4 hx (hb hby at_27) rfl rfl ?_
    refine own_iconst (pc' := 29) X4 hx (1 : Int32) (hb hby at_28) rfl rfl ?_
    refine own_lloadN (pc' := 30) X4 hx (hb hby at_29) rfl rfl ?_
    refine own_lastore (pc' := 31) X4 hx hZ e4 V4 ⟨by decide, by decide⟩ 1 rfl (Nat.le_of_ble_eq_true rfl) (hb hby at_30) rfl ?_
    intro T5 h5 X5 e5 W5 V5
    have z5 : n0 ≤ h5.size := Nat.le_trans z4 (Keep.of_wr W5).1
    have V5 : Arv Z h5 b3 k3 .long (3 : Int32) [(.long p0), (.long p1), (.long (0 : Int64))] (.long (0 : Int64)) := V5
    have N5 := Fr.snoc X5 N4 g_b3
    refine own_dup (pc' := 32) X5 hx (hb hby at_31) rfl rfl ?_
    refine own_iconst (pc' := 33) X5 hx (2 : Int32) (hb hby at_32) rfl rfl ?_
    refine own_lload (pc' := 35) X5 hx (hb hby at_33) rfl rfl ?_
    refine own_lastore (pc' := 36) X5 hx hZ e5 V5 ⟨by decide, by decide⟩ 2 rfl (Nat.le_of_ble_eq_true rfl) (hb hby at_35) rfl ?_
    intro T6 h6 X6 e6 W6 V6
    have z6 : n0 ≤ h6.size := Nat.le_trans z5 (Keep.of_wr W6).1
    have V6 : Arv Z h6 b3 k3 .long (3 : Int32) [(.long p0), (.long p1), (.long p2)] (.long (0 : Int64)) := V6
    have N6 := Fr.snoc X6 N5 g_b3
    refine own_astore (pc' := 38) (l' := #[.val (.long p0), .second, .val (.long p1), .second, .val (.long p2), .second, .val (.int p3), .val (.int (1 : Int32)), .val (.int v2), .val (.ref b3), .unset]) X6 hx (hb hby at_36) rfl rfl rfl ?_
    refine own_iload (pc' := 40) X6 hx (hb hby at_38) rfl rfl ?_
    refine own_iconst (pc' := 41) X6 hx (1 : Int32) (hb hby at_40) rfl rfl ?_
    refine own_icmp_ne (pt := 57) (pf := 44) X6 hx (hb hby at_41) rfl (by decide) rfl (fun hc41 => ?_) (fun hc41 => ?_)
    · skip
      refine own_iload (pc' := 59) X6 hx (hb hby at_57) rfl rfl ?_
      refine own_iconst (pc' := 60) X6 hx (2 : Int32) (hb hby at_59) rfl rfl ?_
      refine own_icmp_ne (pt := 76) (pf := 63) X6 hx (hb hby at_60) rfl (by decide) rfl (fun hc60 => ?_) (fun hc60 => ?_)
      · skip
        refine own_iload (pc' := 78) X6 hx (hb hby at_76) rfl rfl ?_
        refine own_iconst (pc' := 79) X6 hx (3 : Int32) (hb hby at_78) rfl rfl ?_
        refine own_icmp_ne (pt := 92) (pf := 82) X6 hx (hb hby at_79) rfl (by decide) rfl (fun hc79 => ?_) (fun hc79 => ?_)
        · skip
          refine own_new (pc' := 95) X6 hx hZ hown (own_w hw 2 rfl) (own_w hw 3 rfl) (own_w hw 4 rfl) e6 (hb hby at_92) (by decide) (by decide) rfl ?_
          intro T7 h7 b7 g7 X7 e7 E7 A7 D7
          have ne_b3_b7 : b3 ≠ b7 := Nat.ne_of_lt (Nat.lt_of_lt_of_le V6.lt (Nat.le_of_eq g7.symm))
          have ne_b7_b3 := ne_b3_b7.symm
          have g_b7 : n0 ≤ b7 := Nat.le_trans z6 (Nat.le_of_eq g7.symm)
          have z7 : n0 ≤ h7.size := Nat.le_trans z6 E7.1
          have F7_counts : Fld Z h7 b7 "com/example/eventual_leader/eventualleader/election/RecoveryCounts" "counts" "[J" .null := D7 (Or.inr (own_w hw 12 rfl)) (ty := (.array .long)) (by decide +kernel)
          refine own_dup (pc' := 96) X7 hx (hb hby at_95) rfl rfl ?_
          refine own_iconst (pc' := 97) X7 hx (3 : Int32) (hb hby at_96) rfl rfl ?_
          refine own_callN (pc' := 100) (W := 1) (y := (⟨"com/example/eventual_leader/eventualleader/election/RecoveryCounts", "<init>", "(I)V"⟩ : MethodName)) X7 hx hZ rfl hown (own_w hw 5 rfl) (own_w hw 6 rfl) (own_w hw 4 rfl) (own_w hw 7 rfl) (by decide) (conI l Z a0 hw b7 _ n0 z7 A7 F7_counts g_b7) e7 pd0 b7 [(.int (3 : Int32))] [(.ref b7)] rfl rfl rfl (Nat.le_of_eq rfl) (by decide) (by decide) (by rw [hml]; rfl) (hb hby at_97) (by decide) (by decide) rfl ?_
          intro v8 T8 L8 X8 q8
          obtain ⟨c8, k8, rfl, M8, K8, E8q, F8q, V8, g_c8, s8⟩ := q8
          have f9 := (V6.ext E7)
          have ne_b3_c8 : b3 ≠ c8 := Nat.ne_of_lt (Nat.lt_of_lt_of_le f9.lt s8)
          have ne_c8_b3 := ne_b3_c8.symm
          have ne_b7_c8 : b7 ≠ c8 := Nat.ne_of_lt (Nat.lt_of_lt_of_le A7.lt s8)
          have ne_c8_b7 := ne_b7_c8.symm
          obtain ⟨h8, e8⟩ : ∃ z, z = T8.heap := ⟨_, rfl⟩
          rw [← e8] at K8 E8q F8q V8
          have e8 := e8.symm
          have z8 : n0 ≤ h8.size := Nat.le_trans z7 K8.1
          have N8 := Fr.app N6 M8
          show own_WP _ _ _ _ _ _ _ (T8.setTop (mkF m 100 #[.val (.long p0), .second, .val (.long p1), .second, .val (.long p2), .second, .val (.int p3), .val (.int (1 : Int32)), .val (.int v2), .val (.ref b3), .unset] [(.ref b7)]))
          refine own_astore (pc' := 102) (l' := #[.val (.long p0), .second, .val (.long p1), .second, .val (.long p2), .second, .val (.int p3), .val (.int (1 : Int32)), .val (.int v2), .val (.ref b3), .val (.ref b7)]) X8 hx (hb hby at_100) rfl rfl rfl ?_
          refine own_aload (pc' := 104) X8 hx (hb hby at_102) rfl rfl rfl ?_
          refine own_iconst (pc' := 105) X8 hx (1 : Int32) (hb hby at_104) rfl rfl ?_
          refine own_aload (pc' := 107) X8 hx (hb hby at_105) rfl rfl rfl ?_
          refine own_iconst (pc' := 108) X8 hx (0 : Int32) (hb hby at_107) rfl rfl ?_
          have f10 := (f9.keep K8 (ninS ne_b3_b7 nin0))
          refine own_laload (pc' := 109) (v := (.long p0)) X8 hx hZ e8 f10 ⟨by decide, by decide⟩ rfl (hb hby at_108) rfl ?_
          refine own_callV (pc' := 112) (W := 0) (y := (⟨"com/example/eventual_leader/eventualleader/election/RecoveryCounts", "set", "(IJ)V"⟩ : MethodName)) (z := (⟨"com/example/eventual_leader/eventualleader/election/RecoveryCounts", "set", "(IJ)V"⟩ : MethodName)) X8 hx hZ hown (own_w hw 13 rfl) (own_w hw 14 rfl) (notFace_of_selects (args := #[]) (mvT hZ (own_w hw 16 rfl))) (own_w hw 16 rfl) (own_w hw 15 rfl) (own_w hw 4 rfl) (own_w hw 17 rfl) (by decide) E8q (conS l Z a0 hw b7 (1 : Int32) p0 _ n0 z8 c8 k8 [(.long (0 : Int64)), (.long (0 : Int64)), (.long (0 : Int64))] F8q V8 0 ⟨by decide, by decide⟩ rfl (Nat.le_of_ble_eq_true rfl) g_c8) e8 pd1 [(.int (1 : Int32)), (.long p0)] [] rfl rfl rfl (Nat.le_of_eq rfl) (by decide) (by decide) (by rw [hml]; rfl) (hb hby at_109) (by decide) (by decide) rfl ?_
          intro v11 T11 L11 X11 q11
          obtain ⟨rfl, M11, K11, V11⟩ := q11
          obtain ⟨h11, e11⟩ : ∃ z, z = T11.heap := ⟨_, rfl⟩
          rw [← e11] at K11 V11
          have e11 := e11.symm
          have z11 : n0 ≤ h11.size := Nat.le_trans z8 K11.1
          have V11 : Arv Z h11 c8 k8 .long 3 [(.long p0), (.long (0 : Int64)), (.long (0 : Int64))] (.long 0) := V11
          have N11 := Fr.app N8 M11
          show own_WP _ _ _ _ _ _ _ (T11.setTop (mkF m 112 #[.val (.long p0), .second, .val (.long p1), .second, .val (.long p2), .second, .val (.int p3), .val (.int (1 : Int32)), .val (.int v2), .val (.ref b3), .val (.ref b7)] []))
          refine own_aload (pc' := 114) X11 hx (hb hby at_112) rfl rfl rfl ?_
          refine own_iconst (pc' := 115) X11 hx (2 : Int32) (hb hby at_114) rfl rfl ?_
          refine own_aload (pc' := 117) X11 hx (hb hby at_115) rfl rfl rfl ?_
          refine own_iconst (pc' := 118) X11 hx (1 : Int32) (hb hby at_117) rfl rfl ?_
          have f12 := (f10.keep K11 (ninS ne_b3_c8 nin0))
          refine own_laload (pc' := 119) (v := (.long p1)) X11 hx hZ e11 f12 ⟨by decide, by decide⟩ rfl (hb hby at_118) rfl ?_
          have f14 := (F8q.keep K11 (ninS ne_b7_c8 nin0))
          have f15 := (E8q.keep K11)
          refine own_callV (pc' := 122) (W := 0) (y := (⟨"com/example/eventual_leader/eventualleader/election/RecoveryCounts", "set", "(IJ)V"⟩ : MethodName)) (z := (⟨"com/example/eventual_leader/eventualleader/election/RecoveryCounts", "set", "(IJ)V"⟩ : MethodName)) X11 hx hZ hown (own_w hw 13 rfl) (own_w hw 14 rfl) (notFace_of_selects (args := #[]) (mvT hZ (own_w hw 16 rfl))) (own_w hw 16 rfl) (own_w hw 15 rfl) (own_w hw 4 rfl) (own_w hw 17 rfl) (by decide) f15 (conS l Z a0 hw b7 (2 : Int32) p1 _ n0 z11 c8 k8 [(.long p0), (.long (0 : Int64)), (.long (0 : Int64))] f14 V11 1 ⟨by decide, by decide⟩ rfl (Nat.le_of_ble_eq_true rfl) g_c8) e11 pd1 [(.int (2 : Int32)), (.long p1)] [] rfl rfl rfl (Nat.le_of_eq rfl) (by decide) (by decide) (by rw [hml]; rfl) (hb hby at_119) (by decide) (by decide) rfl ?_
          intro v13 T13 L13 X13 q13
          obtain ⟨rfl, M13, K13, V13⟩ := q13
          obtain ⟨h13, e13⟩ : ∃ z, z = T13.heap := ⟨_, rfl⟩
          rw [← e13] at K13 V13
          have e13 := e13.symm
          have z13 : n0 ≤ h13.size := Nat.le_trans z11 K13.1
          have V13 : Arv Z h13 c8 k8 .long 3 [(.long p0), (.long p1), (.long (0 : Int64))] (.long 0) := V13
          have N13 := Fr.app N11 M13
          show own_WP _ _ _ _ _ _ _ (T13.setTop (mkF m 122 #[.val (.long p0), .second, .val (.long p1), .second, .val (.long p2), .second, .val (.int p3), .val (.int (1 : Int32)), .val (.int v2), .val (.ref b3), .val (.ref b7)] []))
          refine own_aload (pc' := 124) X13 hx (hb hby at_122) rfl rfl rfl ?_
          refine own_iconst (pc' := 125) X13 hx (3 : Int32) (hb hby at_124) rfl rfl ?_
          refine own_aload (pc' := 127) X13 hx (hb hby at_125) rfl rfl rfl ?_
          refine own_iconst (pc' := 128) X13 hx (2 : Int32) (hb hby at_127) rfl rfl ?_
          have f16 := (f12.keep K13 (ninS ne_b3_c8 nin0))
          refine own_laload (pc' := 129) (v := (.long p2)) X13 hx hZ e13 f16 ⟨by decide, by decide⟩ rfl (hb hby at_128) rfl ?_
          have f18 := (f14.keep K13 (ninS ne_b7_c8 nin0))
          have f19 := (f15.keep K13)
          refine own_callV (pc' := 132) (W := 0) (y := (⟨"com/example/eventual_leader/eventualleader/election/RecoveryCounts", "set", "(IJ)V"⟩ : MethodName)) (z := (⟨"com/example/eventual_leader/eventualleader/election/RecoveryCounts", "set", "(IJ)V"⟩ : MethodName)) X13 hx hZ hown (own_w hw 13 rfl) (own_w hw 14 rfl) (notFace_of_selects (args := #[]) (mvT hZ (own_w hw 16 rfl))) (own_w hw 16 rfl) (own_w hw 15 rfl) (own_w hw 4 rfl) (own_w hw 17 rfl) (by decide) f19 (conS l Z a0 hw b7 (3 : Int32) p2 _ n0 z13 c8 k8 [(.long p0), (.long p1), (.long (0 : Int64))] f18 V13 2 ⟨by decide, by decide⟩ rfl (Nat.le_of_ble_eq_true rfl) g_c8) e13 pd1 [(.int (3 : Int32)), (.long p2)] [] rfl rfl rfl (Nat.le_of_eq rfl) (by decide) (by decide) (by rw [hml]; rfl) (hb hby at_129) (by decide) (by decide) rfl ?_
          intro v17 T17 L17 X17 q17
          obtain ⟨rfl, M17, K17, V17⟩ := q17
          obtain ⟨h17, e17⟩ : ∃ z, z = T17.heap := ⟨_, rfl⟩
          rw [← e17] at K17 V17
          have e17 := e17.symm
          have z17 : n0 ≤ h17.size := Nat.le_trans z13 K17.1
          have V17 : Arv Z h17 c8 k8 .long 3 [(.long p0), (.long p1), (.long p2)] (.long 0) := V17
          have N17 := Fr.app N13 M17
          show own_WP _ _ _ _ _ _ _ (T17.setTop (mkF m 132 #[.val (.long p0), .second, .val (.long p1), .second, .val (.long p2), .second, .val (.int p3), .val (.int (1 : Int32)), .val (.int v2), .val (.ref b3), .val (.ref b7)] []))
          refine own_aload (pc' := 134) X17 hx (hb hby at_132) rfl rfl rfl ?_
          refine own_iload (pc' := 136) X17 hx (hb hby at_134) rfl rfl ?_
          have f21 := (f18.keep K17 (ninS ne_b7_c8 nin0))
          have f22 := (f19.keep K17)
          refine own_callV (pc' := 139) (W := 0) (y := (⟨"com/example/eventual_leader/eventualleader/election/RecoveryCounts", "increment", "(I)V"⟩ : MethodName)) (z := (⟨"com/example/eventual_leader/eventualleader/election/RecoveryCounts", "increment", "(I)V"⟩ : MethodName)) X17 hx hZ hown (own_w hw 18 rfl) (own_w hw 19 rfl) (notFace_of_selects (args := #[]) (mvT hZ (own_w hw 21 rfl))) (own_w hw 21 rfl) (own_w hw 20 rfl) (own_w hw 4 rfl) (own_w hw 22 rfl) (by decide) f22 (conN l Z a0 hw b7 (1 : Int32) _ n0 z17 c8 k8 [(.long p0), (.long p1), (.long p2)] f21 V17 0 ⟨by decide, by decide⟩ rfl (Nat.le_of_ble_eq_true rfl) g_c8 p0 rfl) e17 pd0 [(.int (1 : Int32))] [] rfl rfl rfl (Nat.le_of_eq rfl) (by decide) (by decide) (by rw [hml]; rfl) (hb hby at_136) (by decide) (by decide) rfl ?_
          intro v20 T20 L20 X20 q20
          obtain ⟨rfl, M20, K20, V20⟩ := q20
          obtain ⟨h20, e20⟩ : ∃ z, z = T20.heap := ⟨_, rfl⟩
          rw [← e20] at K20 V20
          have e20 := e20.symm
          have z20 : n0 ≤ h20.size := Nat.le_trans z17 K20.1
          have N20 := Fr.app N17 M20
          show own_WP _ _ _ _ _ _ _ (T20.setTop (mkF m 139 #[.val (.long p0), .second, .val (.long p1), .second, .val (.long p2), .second, .val (.int p3), .val (.int (1 : Int32)), .val (.int v2), .val (.ref b3), .val (.ref b7)] []))
          by_cases hlt : p0 < (9223372036854775807 : Int64)
          · rw [if_pos hlt] at V20
            have V20 : Arv Z h20 c8 k8 .long 3 [(.long (p0 + 1)), (.long p1), (.long p2)] (.long 0) := V20
            refine own_aload (pc' := 141) X20 hx (hb hby at_139) rfl rfl rfl ?_
            refine own_iconst (pc' := 142) X20 hx (1 : Int32) (hb hby at_141) rfl rfl ?_
            have f24 := (f21.keep K20 (ninS ne_b7_c8 nin0))
            have f25 := (f22.keep K20)
            refine own_callV (pc' := 145) (W := 0) (y := (⟨"com/example/eventual_leader/eventualleader/election/RecoveryCounts", "of", "(I)J"⟩ : MethodName)) (z := (⟨"com/example/eventual_leader/eventualleader/election/RecoveryCounts", "of", "(I)J"⟩ : MethodName)) X20 hx hZ hown (own_w hw 24 rfl) (own_w hw 25 rfl) (notFace_of_selects (args := #[]) (mvT hZ (own_w hw 27 rfl))) (own_w hw 27 rfl) (own_w hw 26 rfl) (own_w hw 4 rfl) (own_w hw 28 rfl) (by decide) f25 (conO l Z a0 hw b7 (1 : Int32) _ c8 k8 [(.long (p0 + 1)), (.long p1), (.long p2)] f24 V20 0 ⟨by decide, by decide⟩ rfl (p0 + 1) rfl) e20 pd2 [(.int (1 : Int32))] [] rfl rfl rfl (Nat.le_of_eq rfl) (by decide) (by decide) (by rw [hml]; rfl) (hb hby at_142) (by decide) (by decide) rfl ?_
            intro v23 T23 L23 X23 q23
            obtain ⟨r23, rfl, hr23, rfl, e23⟩ := q23
            have N23 := Fr.app N20 (Fr.nil n0)
            show own_WP _ _ _ _ _ _ _ (T23.setTop (mkF m 145 #[.val (.long p0), .second, .val (.long p1), .second, .val (.long p2), .second, .val (.int p3), .val (.int (1 : Int32)), .val (.int v2), .val (.ref b3), .val (.ref b7)] [(.long r23)]))
            refine own_iconst (pc' := 146) X23 hx (1 : Int32) (hb hby at_145) rfl rfl ?_
            refine own_iload (pc' := 148) X23 hx (hb hby at_146) rfl rfl ?_
            refine own_aload (pc' := 150) X23 hx (hb hby at_148) rfl rfl rfl ?_
            refine own_iconst (pc' := 151) X23 hx (0 : Int32) (hb hby at_150) rfl rfl ?_
            have f26 := ((f16.keep K17 (ninS ne_b3_c8 nin0)).keep K20 (ninS ne_b3_c8 nin0))
            refine own_laload (pc' := 152) (v := (.long p0)) X23 hx hZ e23 f26 ⟨by decide, by decide⟩ rfl (hb hby at_151) rfl ?_
            refine own_callS (pc' := 155) (W := 2) (y := (⟨"com/example/eventual_leader/eventualleader/election/RecoveryCountsIncrementPinLaw", "expect", "(IIJ)J"⟩ : MethodName)) X23 hx hZ hown (own_w hw 29 rfl) (own_w hw 30 rfl) (own_w hw 31 rfl) (own_w hw 32 rfl) (by decide) (conX l Z a0 hw (1 : Int32) (1 : Int32) p0 _ ) e23 pd3 [(.int (1 : Int32)), (.int (1 : Int32)), (.long p0)] [(.long r23)] rfl rfl rfl (Nat.le_of_eq rfl) (by decide) (by decide) (by rw [hml]; rfl) (hb hby at_152) (by decide) (by decide) rfl ?_
            intro v27 T27 L27 X27 q27
            obtain ⟨r27, rfl, hr27, rfl, e27⟩ := q27
            have N27 := Fr.app N23 (Fr.nil n0)
            show own_WP _ _ _ _ _ _ _ (T27.setTop (mkF m 155 #[.val (.long p0), .second, .val (.long p1), .second, .val (.long p2), .second, .val (.int p3), .val (.int (1 : Int32)), .val (.int v2), .val (.ref b3), .val (.ref b7)] [(.long r27), (.long r23)]))
            refine own_lcmp (pc' := 156) X27 hx (hb hby at_155) rfl ?_
            refine own_ifl_ne (pt := 203) (pf := 159) X27 hx (hb hby at_156) rfl (by decide) rfl (fun hc156 => absurd (by rw [hr23, hr27]; exact (own_exY hlt).symm) hc156) (fun hc156 => ?_)
            refine own_aload (pc' := 161) X27 hx (hb hby at_159) rfl rfl rfl ?_
            refine own_iconst (pc' := 162) X27 hx (2 : Int32) (hb hby at_161) rfl rfl ?_
            refine own_callV (pc' := 165) (W := 0) (y := (⟨"com/example/eventual_leader/eventualleader/election/RecoveryCounts", "of", "(I)J"⟩ : MethodName)) (z := (⟨"com/example/eventual_leader/eventualleader/election/RecoveryCounts", "of", "(I)J"⟩ : MethodName)) X27 hx hZ hown (own_w hw 24 rfl) (own_w hw 25 rfl) (notFace_of_selects (args := #[]) (mvT hZ (own_w hw 27 rfl))) (own_w hw 27 rfl) (own_w hw 26 rfl) (own_w hw 4 rfl) (own_w hw 28 rfl) (by decide) f25 (conO l Z a0 hw b7 (2 : Int32) _ c8 k8 [(.long (p0 + 1)), (.long p1), (.long p2)] f24 V20 1 ⟨by decide, by decide⟩ rfl p1 rfl) e27 pd2 [(.int (2 : Int32))] [] rfl rfl rfl (Nat.le_of_eq rfl) (by decide) (by decide) (by rw [hml]; rfl) (hb hby at_162) (by decide) (by decide) rfl ?_
            intro v28 T28 L28 X28 q28
            obtain ⟨r28, rfl, hr28, rfl, e28⟩ := q28
            have N28 := Fr.app N27 (Fr.nil n0)
            show own_WP _ _ _ _ _ _ _ (T28.setTop (mkF m 165 #[.val (.long p0), .second, .val (.long p1), .second, .val (.long p2), .second, .val (.int p3), .val (.int (1 : Int32)), .val (.int v2), .val (.ref b3), .val (.ref b7)] [(.long r28)]))
            refine own_iconst (pc' := 166) X28 hx (2 : Int32) (hb hby at_165) rfl rfl ?_
            refine own_iload (pc' := 168) X28 hx (hb hby at_166) rfl rfl ?_
            refine own_aload (pc' := 170) X28 hx (hb hby at_168) rfl rfl rfl ?_
            refine own_iconst (pc' := 171) X28 hx (1 : Int32) (hb hby at_170) rfl rfl ?_
            refine own_laload (pc' := 172) (v := (.long p1)) X28 hx hZ e28 f26 ⟨by decide, by decide⟩ rfl (hb hby at_171) rfl ?_
            refine own_callS (pc' := 175) (W := 2) (y := (⟨"com/example/eventual_leader/eventualleader/election/RecoveryCountsIncrementPinLaw", "expect", "(IIJ)J"⟩ : MethodName)) X28 hx hZ hown (own_w hw 29 rfl) (own_w hw 30 rfl) (own_w hw 31 rfl) (own_w hw 32 rfl) (by decide) (conX l Z a0 hw (2 : Int32) (1 : Int32) p1 _ ) e28 pd3 [(.int (2 : Int32)), (.int (1 : Int32)), (.long p1)] [(.long r28)] rfl rfl rfl (Nat.le_of_eq rfl) (by decide) (by decide) (by rw [hml]; rfl) (hb hby at_172) (by decide) (by decide) rfl ?_
            intro v29 T29 L29 X29 q29
            obtain ⟨r29, rfl, hr29, rfl, e29⟩ := q29
            have N29 := Fr.app N28 (Fr.nil n0)
            show own_WP _ _ _ _ _ _ _ (T29.setTop (mkF m 175 #[.val (.long p0), .second, .val (.long p1), .second, .val (.long p2), .second, .val (.int p3), .val (.int (1 : Int32)), .val (.int v2), .val (.ref b3), .val (.ref b7)] [(.long r29), (.long r28)]))
            refine own_lcmp (pc' := 176) X29 hx (hb hby at_175) rfl ?_
            refine own_ifl_ne (pt := 203) (pf := 179) X29 hx (hb hby at_176) rfl (by decide) rfl (fun hc176 => absurd (by rw [hr28, hr29]; exact (own_exN (by decide)).symm) hc176) (fun hc176 => ?_)
            refine own_aload (pc' := 181) X29 hx (hb hby at_179) rfl rfl rfl ?_
            refine own_iconst (pc' := 182) X29 hx (3 : Int32) (hb hby at_181) rfl rfl ?_
            refine own_callV (pc' := 185) (W := 0) (y := (⟨"com/example/eventual_leader/eventualleader/election/RecoveryCounts", "of", "(I)J"⟩ : MethodName)) (z := (⟨"com/example/eventual_leader/eventualleader/election/RecoveryCounts", "of", "(I)J"⟩ : MethodName)) X29 hx hZ hown (own_w hw 24 rfl) (own_w hw 25 rfl) (notFace_of_selects (args := #[]) (mvT hZ (own_w hw 27 rfl))) (own_w hw 27 rfl) (own_w hw 26 rfl) (own_w hw 4 rfl) (own_w hw 28 rfl) (by decide) f25 (conO l Z a0 hw b7 (3 : Int32) _ c8 k8 [(.long (p0 + 1)), (.long p1), (.long p2)] f24 V20 2 ⟨by decide, by decide⟩ rfl p2 rfl) e29 pd2 [(.int (3 : Int32))] [] rfl rfl rfl (Nat.le_of_eq rfl) (by decide) (by decide) (by rw [hml]; rfl) (hb hby at_182) (by decide) (by decide) rfl ?_
            intro v30 T30 L30 X30 q30
            obtain ⟨r30, rfl, hr30, rfl, e30⟩ := q30
            have N30 := Fr.app N29 (Fr.nil n0)
            show own_WP _ _ _ _ _ _ _ (T30.setTop (mkF m 185 #[.val (.long p0), .second, .val (.long p1), .second, .val (.long p2), .second, .val (.int p3), .val (.int (1 : Int32)), .val (.int v2), .val (.ref b3), .val (.ref b7)] [(.long r30)]))
            refine own_iconst (pc' := 186) X30 hx (3 : Int32) (hb hby at_185) rfl rfl ?_
            refine own_iload (pc' := 188) X30 hx (hb hby at_186) rfl rfl ?_
            refine own_aload (pc' := 190) X30 hx (hb hby at_188) rfl rfl rfl ?_
            refine own_iconst (pc' := 191) X30 hx (2 : Int32) (hb hby at_190) rfl rfl ?_
            refine own_laload (pc' := 192) (v := (.long p2)) X30 hx hZ e30 f26 ⟨by decide, by decide⟩ rfl (hb hby at_191) rfl ?_
            refine own_callS (pc' := 195) (W := 2) (y := (⟨"com/example/eventual_leader/eventualleader/election/RecoveryCountsIncrementPinLaw", "expect", "(IIJ)J"⟩ : MethodName)) X30 hx hZ hown (own_w hw 29 rfl) (own_w hw 30 rfl) (own_w hw 31 rfl) (own_w hw 32 rfl) (by decide) (conX l Z a0 hw (3 : Int32) (1 : Int32) p2 _ ) e30 pd3 [(.int (3 : Int32)), (.int (1 : Int32)), (.long p2)] [(.long r30)] rfl rfl rfl (Nat.le_of_eq rfl) (by decide) (by decide) (by rw [hml]; rfl) (hb hby at_192) (by decide) (by decide) rfl ?_
            intro v31 T31 L31 X31 q31
            obtain ⟨r31, rfl, hr31, rfl, e31⟩ := q31
            have N31 := Fr.app N30 (Fr.nil n0)
            show own_WP _ _ _ _ _ _ _ (T31.setTop (mkF m 195 #[.val (.long p0), .second, .val (.long p1), .second, .val (.long p2), .second, .val (.int p3), .val (.int (1 : Int32)), .val (.int v2), .val (.ref b3), .val (.ref b7)] [(.long r31), (.long r30)]))
            refine own_lcmp (pc' := 196) X31 hx (hb hby at_195) rfl ?_
            refine own_ifl_ne (pt := 203) (pf := 199) X31 hx (hb hby at_196) rfl (by decide) rfl (fun hc196 => absurd (by rw [hr30, hr31]; exact (own_exN (by decide)).symm) hc196) (fun hc196 => ?_)
            refine own_iconst (pc' := 200) X31 hx (1 : Int32) (hb hby at_199) rfl rfl ?_
            refine own_goto (pc' := 204) X31 hx (hb hby at_200) (by decide) rfl ?_
            refine own_retN X31 hx hlk (t := .boolean) (by decide) hret (hb hby at_204) (by decide) (by decide) ?_
            exact ⟨rfl, N31⟩
          · rw [if_neg hlt] at V20
            have V20 : Arv Z h20 c8 k8 .long 3 [(.long p0), (.long p1), (.long p2)] (.long 0) := V20
            refine own_aload (pc' := 141) X20 hx (hb hby at_139) rfl rfl rfl ?_
            refine own_iconst (pc' := 142) X20 hx (1 : Int32) (hb hby at_141) rfl rfl ?_
            have f33 := (f21.keep K20 (ninS ne_b7_c8 nin0))
            have f34 := (f22.keep K20)
            refine own_callV (pc' := 145) (W := 0) (y := (⟨"com/example/eventual_leader/eventualleader/election/RecoveryCounts", "of", "(I)J"⟩ : MethodName)) (z := (⟨"com/example/eventual_leader/eventualleader/election/RecoveryCounts", "of", "(I)J"⟩ : MethodName)) X20 hx hZ hown (own_w hw 24 rfl) (own_w hw 25 rfl) (notFace_of_selects (args := #[]) (mvT hZ (own_w hw 27 rfl))) (own_w hw 27 rfl) (own_w hw 26 rfl) (own_w hw 4 rfl) (own_w hw 28 rfl) (by decide) f34 (conO l Z a0 hw b7 (1 : Int32) _ c8 k8 [(.long p0), (.long p1), (.long p2)] f33 V20 0 ⟨by decide, by decide⟩ rfl p0 rfl) e20 pd2 [(.int (1 : Int32))] [] rfl rfl rfl (Nat.le_of_eq rfl) (by decide) (by decide) (by rw [hml]; rfl) (hb hby at_142) (by decide) (by decide) rfl ?_
            intro v32 T32 L32 X32 q32
            obtain ⟨r32, rfl, hr32, rfl, e32⟩ := q32
            have N32 := Fr.app N20 (Fr.nil n0)
            show own_WP _ _ _ _ _ _ _ (T32.setTop (mkF m 145 #[.val (.long p0), .second, .val (.long p1), .second, .val (.long p2), .second, .val (.int p3), .val (.int (1 : Int32)), .val (.int v2), .val (.ref b3), .val (.ref b7)] [(.long r32)]))
            refine own_iconst (pc' := 146) X32 hx (1 : Int32) (hb hby at_145) rfl rfl ?_
            refine own_iload (pc' := 148) X32 hx (hb hby at_146) rfl rfl ?_
            refine own_aload (pc' := 150) X32 hx (hb hby at_148) rfl rfl rfl ?_
            refine own_iconst (pc' := 151) X32 hx (0 : Int32) (hb hby at_150) rfl rfl ?_
            have f35 := ((f16.keep K17 (ninS ne_b3_c8 nin0)).keep K20 (ninS ne_b3_c8 nin0))
            refine own_laload (pc' := 152) (v := (.long p0)) X32 hx hZ e32 f35 ⟨by decide, by decide⟩ rfl (hb hby at_151) rfl ?_
            refine own_callS (pc' := 155) (W := 2) (y := (⟨"com/example/eventual_leader/eventualleader/election/RecoveryCountsIncrementPinLaw", "expect", "(IIJ)J"⟩ : MethodName)) X32 hx hZ hown (own_w hw 29 rfl) (own_w hw 30 rfl) (own_w hw 31 rfl) (own_w hw 32 rfl) (by decide) (conX l Z a0 hw (1 : Int32) (1 : Int32) p0 _ ) e32 pd3 [(.int (1 : Int32)), (.int (1 : Int32)), (.long p0)] [(.long r32)] rfl rfl rfl (Nat.le_of_eq rfl) (by decide) (by decide) (by rw [hml]; rfl) (hb hby at_152) (by decide) (by decide) rfl ?_
            intro v36 T36 L36 X36 q36
            obtain ⟨r36, rfl, hr36, rfl, e36⟩ := q36
            have N36 := Fr.app N32 (Fr.nil n0)
            show own_WP _ _ _ _ _ _ _ (T36.setTop (mkF m 155 #[.val (.long p0), .second, .val (.long p1), .second, .val (.long p2), .second, .val (.int p3), .val (.int (1 : Int32)), .val (.int v2), .val (.ref b3), .val (.ref b7)] [(.long r36), (.long r32)]))
            refine own_lcmp (pc' := 156) X36 hx (hb hby at_155) rfl ?_
            refine own_ifl_ne (pt := 203) (pf := 159) X36 hx (hb hby at_156) rfl (by decide) rfl (fun hc156 => absurd (by rw [hr32, hr36]; exact (own_exM hlt).symm) hc156) (fun hc156 => ?_)
            refine own_aload (pc' := 161) X36 hx (hb hby at_159) rfl rfl rfl ?_
            refine own_iconst (pc' := 162) X36 hx (2 : Int32) (hb hby at_161) rfl rfl ?_
            refine own_callV (pc' := 165) (W := 0) (y := (⟨"com/example/eventual_leader/eventualleader/election/RecoveryCounts", "of", "(I)J"⟩ : MethodName)) (z := (⟨"com/example/eventual_leader/eventualleader/election/RecoveryCounts", "of", "(I)J"⟩ : MethodName)) X36 hx hZ hown (own_w hw 24 rfl) (own_w hw 25 rfl) (notFace_of_selects (args := #[]) (mvT hZ (own_w hw 27 rfl))) (own_w hw 27 rfl) (own_w hw 26 rfl) (own_w hw 4 rfl) (own_w hw 28 rfl) (by decide) f34 (conO l Z a0 hw b7 (2 : Int32) _ c8 k8 [(.long p0), (.long p1), (.long p2)] f33 V20 1 ⟨by decide, by decide⟩ rfl p1 rfl) e36 pd2 [(.int (2 : Int32))] [] rfl rfl rfl (Nat.le_of_eq rfl) (by decide) (by decide) (by rw [hml]; rfl) (hb hby at_162) (by decide) (by decide) rfl ?_
            intro v37 T37 L37 X37 q37
            obtain ⟨r37, rfl, hr37, rfl, e37⟩ := q37
            have N37 := Fr.app N36 (Fr.nil n0)
            show own_WP _ _ _ _ _ _ _ (T37.setTop (mkF m 165 #[.val (.long p0), .second, .val (.long p1), .second, .val (.long p2), .second, .val (.int p3), .val (.int (1 : Int32)), .val (.int v2), .val (.ref b3), .val (.ref b7)] [(.long r37)]))
            refine own_iconst (pc' := 166) X37 hx (2 : Int32) (hb hby at_165) rfl rfl ?_
            refine own_iload (pc' := 168) X37 hx (hb hby at_166) rfl rfl ?_
            refine own_aload (pc' := 170) X37 hx (hb hby at_168) rfl rfl rfl ?_
            refine own_iconst (pc' := 171) X37 hx (1 : Int32) (hb hby at_170) rfl rfl ?_
            refine own_laload (pc' := 172) (v := (.long p1)) X37 hx hZ e37 f35 ⟨by decide, by decide⟩ rfl (hb hby at_171) rfl ?_
            refine own_callS (pc' := 175) (W := 2) (y := (⟨"com/example/eventual_leader/eventualleader/election/RecoveryCountsIncrementPinLaw", "expect", "(IIJ)J"⟩ : MethodName)) X37 hx hZ hown (own_w hw 29 rfl) (own_w hw 30 rfl) (own_w hw 31 rfl) (own_w hw 32 rfl) (by decide) (conX l Z a0 hw (2 : Int32) (1 : Int32) p1 _ ) e37 pd3 [(.int (2 : Int32)), (.int (1 : Int32)), (.long p1)] [(.long r37)] rfl rfl rfl (Nat.le_of_eq rfl) (by decide) (by decide) (by rw [hml]; rfl) (hb hby at_172) (by decide) (by decide) rfl ?_
            intro v38 T38 L38 X38 q38
            obtain ⟨r38, rfl, hr38, rfl, e38⟩ := q38
            have N38 := Fr.app N37 (Fr.nil n0)
            show own_WP _ _ _ _ _ _ _ (T38.setTop (mkF m 175 #[.val (.long p0), .second, .val (.long p1), .second, .val (.long p2), .second, .val (.int p3), .val (.int (1 : Int32)), .val (.int v2), .val (.ref b3), .val (.ref b7)] [(.long r38), (.long r37)]))
            refine own_lcmp (pc' := 176) X38 hx (hb hby at_175) rfl ?_
            refine own_ifl_ne (pt := 203) (pf := 179) X38 hx (hb hby at_176) rfl (by decide) rfl (fun hc176 => absurd (by rw [hr37, hr38]; exact (own_exN (by decide)).symm) hc176) (fun hc176 => ?_)
            refine own_aload (pc' := 181) X38 hx (hb hby at_179) rfl rfl rfl ?_
            refine own_iconst (pc' := 182) X38 hx (3 : Int32) (hb hby at_181) rfl rfl ?_
            refine own_callV (pc' := 185) (W := 0) (y := (⟨"com/example/eventual_leader/eventualleader/election/RecoveryCounts", "of", "(I)J"⟩ : MethodName)) (z := (⟨"com/example/eventual_leader/eventualleader/election/RecoveryCounts", "of", "(I)J"⟩ : MethodName)) X38 hx hZ hown (own_w hw 24 rfl) (own_w hw 25 rfl) (notFace_of_selects (args := #[]) (mvT hZ (own_w hw 27 rfl))) (own_w hw 27 rfl) (own_w hw 26 rfl) (own_w hw 4 rfl) (own_w hw 28 rfl) (by decide) f34 (conO l Z a0 hw b7 (3 : Int32) _ c8 k8 [(.long p0), (.long p1), (.long p2)] f33 V20 2 ⟨by decide, by decide⟩ rfl p2 rfl) e38 pd2 [(.int (3 : Int32))] [] rfl rfl rfl (Nat.le_of_eq rfl) (by decide) (by decide) (by rw [hml]; rfl) (hb hby at_182) (by decide) (by decide) rfl ?_
            intro v39 T39 L39 X39 q39
            obtain ⟨r39, rfl, hr39, rfl, e39⟩ := q39
            have N39 := Fr.app N38 (Fr.nil n0)
            show own_WP _ _ _ _ _ _ _ (T39.setTop (mkF m 185 #[.val (.long p0), .second, .val (.long p1), .second, .val (.long p2), .second, .val (.int p3), .val (.int (1 : Int32)), .val (.int v2), .val (.ref b3), .val (.ref b7)] [(.long r39)]))
            refine own_iconst (pc' := 186) X39 hx (3 : Int32) (hb hby at_185) rfl rfl ?_
            refine own_iload (pc' := 188) X39 hx (hb hby at_186) rfl rfl ?_
            refine own_aload (pc' := 190) X39 hx (hb hby at_188) rfl rfl rfl ?_
            refine own_iconst (pc' := 191) X39 hx (2 : Int32) (hb hby at_190) rfl rfl ?_
            refine own_laload (pc' := 192) (v := (.long p2)) X39 hx hZ e39 f35 ⟨by decide, by decide⟩ rfl (hb hby at_191) rfl ?_
            refine own_callS (pc' := 195) (W := 2) (y := (⟨"com/example/eventual_leader/eventualleader/election/RecoveryCountsIncrementPinLaw", "expect", "(IIJ)J"⟩ : MethodName)) X39 hx hZ hown (own_w hw 29 rfl) (own_w hw 30 rfl) (own_w hw 31 rfl) (own_w hw 32 rfl) (by decide) (conX l Z a0 hw (3 : Int32) (1 : Int32) p2 _ ) e39 pd3 [(.int (3 : Int32)), (.int (1 : Int32)), (.long p2)] [(.long r39)] rfl rfl rfl (Nat.le_of_eq rfl) (by decide) (by decide) (by rw [hml]; rfl) (hb hby at_192) (by decide) (by decide) rfl ?_
            intro v40 T40 L40 X40 q40
            obtain ⟨r40, rfl, hr40, rfl, e40⟩ := q40
            have N40 := Fr.app N39 (Fr.nil n0)
            show own_WP _ _ _ _ _ _ _ (T40.setTop (mkF m 195 #[.val (.long p0), .second, .val (.long p1), .second, .val (.long p2), .second, .val (.int p3), .val (.int (1 : Int32)), .val (.int v2), .val (.ref b3), .val (.ref b7)] [(.long r40), (.long r39)]))
            refine own_lcmp (pc' := 196) X40 hx (hb hby at_195) rfl ?_
            refine own_ifl_ne (pt := 203) (pf := 199) X40 hx (hb hby at_196) rfl (by decide) rfl (fun hc196 => absurd (by rw [hr39, hr40]; exact (own_exN (by decide)).symm) hc196) (fun hc196 => ?_)
            refine own_iconst (pc' := 200) X40 hx (1 : Int32) (hb hby at_199) rfl rfl ?_
            refine own_goto (pc' := 204) X40 hx (hb hby at_200) (by decide) rfl ?_
            refine own_retN X40 hx hlk (t := .boolean) (by decide) hret (hb hby at_204) (by decide) (by decide) ?_
            exact ⟨rfl, N40⟩
        · skip
          refine own_aload (pc' := 84) X6 hx (hb hby at_82) rfl rfl rfl ?_
          refine own_iload (pc' := 86) X6 hx (hb hby at_84) rfl rfl ?_
          refine own_iconst (pc' := 87) X6 hx (1 : Int32) (hb hby at_86) rfl rfl ?_
          refine own_isub (pc' := 88) X6 hx (hb hby at_87) rfl ?_
          show own_WP _ _ _ _ _ _ _ (T6.setTop (mkF m 88 #[.val (.long p0), .second, .val (.long p1), .second, .val (.long p2), .second, .val (.int p3), .val (.int (1 : Int32)), .val (.int v2), .val (.ref b3), .unset] [(.int (0 : Int32)), (.ref b3)]))
          refine own_ldc2Long (pc' := 91) X6 hx hZ hown (own_w hw 35 rfl) (hb hby at_88) rfl ?_
          refine own_lastore (pc' := 92) X6 hx hZ e6 V6 ⟨by decide, by decide⟩ 0 rfl (Nat.le_of_ble_eq_true rfl) (hb hby at_91) rfl ?_
          intro T41 h41 X41 e41 W41 V41
          have z41 : n0 ≤ h41.size := Nat.le_trans z6 (Keep.of_wr W41).1
          have V41 : Arv Z h41 b3 k3 .long (3 : Int32) [(.long (-9223372036854775808 : Int64)), (.long p1), (.long p2)] (.long (0 : Int64)) := V41
          have N41 := Fr.snoc X41 N6 g_b3
          refine own_new (pc' := 95) X41 hx hZ hown (own_w hw 2 rfl) (own_w hw 3 rfl) (own_w hw 4 rfl) e41 (hb hby at_92) (by decide) (by decide) rfl ?_
          intro T42 h42 b42 g42 X42 e42 E42 A42 D42
          have ne_b3_b42 : b3 ≠ b42 := Nat.ne_of_lt (Nat.lt_of_lt_of_le V41.lt (Nat.le_of_eq g42.symm))
          have ne_b42_b3 := ne_b3_b42.symm
          have g_b42 : n0 ≤ b42 := Nat.le_trans z41 (Nat.le_of_eq g42.symm)
          have z42 : n0 ≤ h42.size := Nat.le_trans z41 E42.1
          have F42_counts : Fld Z h42 b42 "com/example/eventual_leader/eventualleader/election/RecoveryCounts" "counts" "[J" .null := D42 (Or.inr (own_w hw 12 rfl)) (ty := (.array .long)) (by decide +kernel)
          refine own_dup (pc' := 96) X42 hx (hb hby at_95) rfl rfl ?_
          refine own_iconst (pc' := 97) X42 hx (3 : Int32) (hb hby at_96) rfl rfl ?_
          refine own_callN (pc' := 100) (W := 1) (y := (⟨"com/example/eventual_leader/eventualleader/election/RecoveryCounts", "<init>", "(I)V"⟩ : MethodName)) X42 hx hZ rfl hown (own_w hw 5 rfl) (own_w hw 6 rfl) (own_w hw 4 rfl) (own_w hw 7 rfl) (by decide) (conI l Z a0 hw b42 _ n0 z42 A42 F42_counts g_b42) e42 pd0 b42 [(.int (3 : Int32))] [(.ref b42)] rfl rfl rfl (Nat.le_of_eq rfl) (by decide) (by decide) (by rw [hml]; rfl) (hb hby at_97) (by decide) (by decide) rfl ?_
          intro v43 T43 L43 X43 q43
          obtain ⟨c43, k43, rfl, M43, K43, E43q, F43q, V43, g_c43, s43⟩ := q43
          have f44 := (V41.ext E42)
          have ne_b3_c43 : b3 ≠ c43 := Nat.ne_of_lt (Nat.lt_of_lt_of_le f44.lt s43)
          have ne_c43_b3 := ne_b3_c43.symm
          have ne_b42_c43 : b42 ≠ c43 := Nat.ne_of_lt (Nat.lt_of_lt_of_le A42.lt s43)
          have ne_c43_b42 := ne_b42_c43.symm
          obtain ⟨h43, e43⟩ : ∃ z, z = T43.heap := ⟨_, rfl⟩
          rw [← e43] at K43 E43q F43q V43
          have e43 := e43.symm
          have z43 : n0 ≤ h43.size := Nat.le_trans z42 K43.1
          have N43 := Fr.app N41 M43
          show own_WP _ _ _ _ _ _ _ (T43.setTop (mkF m 100 #[.val (.long p0), .second, .val (.long p1), .second, .val (.long p2), .second, .val (.int p3), .val (.int (1 : Int32)), .val (.int v2), .val (.ref b3), .unset] [(.ref b42)]))
          refine own_astore (pc' := 102) (l' := #[.val (.long p0), .second, .val (.long p1), .second, .val (.long p2), .second, .val (.int p3), .val (.int (1 : Int32)), .val (.int v2), .val (.ref b3), .val (.ref b42)]) X43 hx (hb hby at_100) rfl rfl rfl ?_
          refine own_aload (pc' := 104) X43 hx (hb hby at_102) rfl rfl rfl ?_
          refine own_iconst (pc' := 105) X43 hx (1 : Int32) (hb hby at_104) rfl rfl ?_
          refine own_aload (pc' := 107) X43 hx (hb hby at_105) rfl rfl rfl ?_
          refine own_iconst (pc' := 108) X43 hx (0 : Int32) (hb hby at_107) rfl rfl ?_
          have f45 := (f44.keep K43 (ninS ne_b3_b42 nin0))
          refine own_laload (pc' := 109) (v := (.long (-9223372036854775808 : Int64))) X43 hx hZ e43 f45 ⟨by decide, by decide⟩ rfl (hb hby at_108) rfl ?_
          refine own_callV (pc' := 112) (W := 0) (y := (⟨"com/example/eventual_leader/eventualleader/election/RecoveryCounts", "set", "(IJ)V"⟩ : MethodName)) (z := (⟨"com/example/eventual_leader/eventualleader/election/RecoveryCounts", "set", "(IJ)V"⟩ : MethodName)) X43 hx hZ hown (own_w hw 13 rfl) (own_w hw 14 rfl) (notFace_of_selects (args := #[]) (mvT hZ (own_w hw 16 rfl))) (own_w hw 16 rfl) (own_w hw 15 rfl) (own_w hw 4 rfl) (own_w hw 17 rfl) (by decide) E43q (conS l Z a0 hw b42 (1 : Int32) (-9223372036854775808 : Int64) _ n0 z43 c43 k43 [(.long (0 : Int64)), (.long (0 : Int64)), (.long (0 : Int64))] F43q V43 0 ⟨by decide, by decide⟩ rfl (Nat.le_of_ble_eq_true rfl) g_c43) e43 pd1 [(.int (1 : Int32)), (.long (-9223372036854775808 : Int64))] [] rfl rfl rfl (Nat.le_of_eq rfl) (by decide) (by decide) (by rw [hml]; rfl) (hb hby at_109) (by decide) (by decide) rfl ?_
          intro v46 T46 L46 X46 q46
          obtain ⟨rfl, M46, K46, V46⟩ := q46
          obtain ⟨h46, e46⟩ : ∃ z, z = T46.heap := ⟨_, rfl⟩
          rw [← e46] at K46 V46
          have e46 := e46.symm
          have z46 : n0 ≤ h46.size := Nat.le_trans z43 K46.1
          have V46 : Arv Z h46 c43 k43 .long 3 [(.long (-9223372036854775808 : Int64)), (.long (0 : Int64)), (.long (0 : Int64))] (.long 0) := V46
          have N46 := Fr.app N43 M46
          show own_WP _ _ _ _ _ _ _ (T46.setTop (mkF m 112 #[.val (.long p0), .second, .val (.long p1), .second, .val (.long p2), .second, .val (.int p3), .val (.int (1 : Int32)), .val (.int v2), .val (.ref b3), .val (.ref b42)] []))
          refine own_aload (pc' := 114) X46 hx (hb hby at_112) rfl rfl rfl ?_
          refine own_iconst (pc' := 115) X46 hx (2 : Int32) (hb hby at_114) rfl rfl ?_
          refine own_aload (pc' := 117) X46 hx (hb hby at_115) rfl rfl rfl ?_
          refine own_iconst (pc' := 118) X46 hx (1 : Int32) (hb hby at_117) rfl rfl ?_
          have f47 := (f45.keep K46 (ninS ne_b3_c43 nin0))
          refine own_laload (pc' := 119) (v := (.long p1)) X46 hx hZ e46 f47 ⟨by decide, by decide⟩ rfl (hb hby at_118) rfl ?_
          have f49 := (F43q.keep K46 (ninS ne_b42_c43 nin0))
          have f50 := (E43q.keep K46)
          refine own_callV (pc' := 122) (W := 0) (y := (⟨"com/example/eventual_leader/eventualleader/election/RecoveryCounts", "set", "(IJ)V"⟩ : MethodName)) (z := (⟨"com/example/eventual_leader/eventualleader/election/RecoveryCounts", "set", "(IJ)V"⟩ : MethodName)) X46 hx hZ hown (own_w hw 13 rfl) (own_w hw 14 rfl) (notFace_of_selects (args := #[]) (mvT hZ (own_w hw 16 rfl))) (own_w hw 16 rfl) (own_w hw 15 rfl) (own_w hw 4 rfl) (own_w hw 17 rfl) (by decide) f50 (conS l Z a0 hw b42 (2 : Int32) p1 _ n0 z46 c43 k43 [(.long (-9223372036854775808 : Int64)), (.long (0 : Int64)), (.long (0 : Int64))] f49 V46 1 ⟨by decide, by decide⟩ rfl (Nat.le_of_ble_eq_true rfl) g_c43) e46 pd1 [(.int (2 : Int32)), (.long p1)] [] rfl rfl rfl (Nat.le_of_eq rfl) (by decide) (by decide) (by rw [hml]; rfl) (hb hby at_119) (by decide) (by decide) rfl ?_
          intro v48 T48 L48 X48 q48
          obtain ⟨rfl, M48, K48, V48⟩ := q48
          obtain ⟨h48, e48⟩ : ∃ z, z = T48.heap := ⟨_, rfl⟩
          rw [← e48] at K48 V48
          have e48 := e48.symm
          have z48 : n0 ≤ h48.size := Nat.le_trans z46 K48.1
          have V48 : Arv Z h48 c43 k43 .long 3 [(.long (-9223372036854775808 : Int64)), (.long p1), (.long (0 : Int64))] (.long 0) := V48
          have N48 := Fr.app N46 M48
          show own_WP _ _ _ _ _ _ _ (T48.setTop (mkF m 122 #[.val (.long p0), .second, .val (.long p1), .second, .val (.long p2), .second, .val (.int p3), .val (.int (1 : Int32)), .val (.int v2), .val (.ref b3), .val (.ref b42)] []))
          refine own_aload (pc' := 124) X48 hx (hb hby at_122) rfl rfl rfl ?_
          refine own_iconst (pc' := 125) X48 hx (3 : Int32) (hb hby at_124) rfl rfl ?_
          refine own_aload (pc' := 127) X48 hx (hb hby at_125) rfl rfl rfl ?_
          refine own_iconst (pc' := 128) X48 hx (2 : Int32) (hb hby at_127) rfl rfl ?_
          have f51 := (f47.keep K48 (ninS ne_b3_c43 nin0))
          refine own_laload (pc' := 129) (v := (.long p2)) X48 hx hZ e48 f51 ⟨by decide, by decide⟩ rfl (hb hby at_128) rfl ?_
          have f53 := (f49.keep K48 (ninS ne_b42_c43 nin0))
          have f54 := (f50.keep K48)
          refine own_callV (pc' := 132) (W := 0) (y := (⟨"com/example/eventual_leader/eventualleader/election/RecoveryCounts", "set", "(IJ)V"⟩ : MethodName)) (z := (⟨"com/example/eventual_leader/eventualleader/election/RecoveryCounts", "set", "(IJ)V"⟩ : MethodName)) X48 hx hZ hown (own_w hw 13 rfl) (own_w hw 14 rfl) (notFace_of_selects (args := #[]) (mvT hZ (own_w hw 16 rfl))) (own_w hw 16 rfl) (own_w hw 15 rfl) (own_w hw 4 rfl) (own_w hw 17 rfl) (by decide) f54 (conS l Z a0 hw b42 (3 : Int32) p2 _ n0 z48 c43 k43 [(.long (-9223372036854775808 : Int64)), (.long p1), (.long (0 : Int64))] f53 V48 2 ⟨by decide, by decide⟩ rfl (Nat.le_of_ble_eq_true rfl) g_c43) e48 pd1 [(.int (3 : Int32)), (.long p2)] [] rfl rfl rfl (Nat.le_of_eq rfl) (by decide) (by decide) (by rw [hml]; rfl) (hb hby at_129) (by decide) (by decide) rfl ?_
          intro v52 T52 L52 X52 q52
          obtain ⟨rfl, M52, K52, V52⟩ := q52
          obtain ⟨h52, e52⟩ : ∃ z, z = T52.heap := ⟨_, rfl⟩
          rw [← e52] at K52 V52
          have e52 := e52.symm
          have z52 : n0 ≤ h52.size := Nat.le_trans z48 K52.1
          have V52 : Arv Z h52 c43 k43 .long 3 [(.long (-9223372036854775808 : Int64)), (.long p1), (.long p2)] (.long 0) := V52
          have N52 := Fr.app N48 M52
          show own_WP _ _ _ _ _ _ _ (T52.setTop (mkF m 132 #[.val (.long p0), .second, .val (.long p1), .second, .val (.long p2), .second, .val (.int p3), .val (.int (1 : Int32)), .val (.int v2), .val (.ref b3), .val (.ref b42)] []))
          refine own_aload (pc' := 134) X52 hx (hb hby at_132) rfl rfl rfl ?_
          refine own_iload (pc' := 136) X52 hx (hb hby at_134) rfl rfl ?_
          have f56 := (f53.keep K52 (ninS ne_b42_c43 nin0))
          have f57 := (f54.keep K52)
          refine own_callV (pc' := 139) (W := 0) (y := (⟨"com/example/eventual_leader/eventualleader/election/RecoveryCounts", "increment", "(I)V"⟩ : MethodName)) (z := (⟨"com/example/eventual_leader/eventualleader/election/RecoveryCounts", "increment", "(I)V"⟩ : MethodName)) X52 hx hZ hown (own_w hw 18 rfl) (own_w hw 19 rfl) (notFace_of_selects (args := #[]) (mvT hZ (own_w hw 21 rfl))) (own_w hw 21 rfl) (own_w hw 20 rfl) (own_w hw 4 rfl) (own_w hw 22 rfl) (by decide) f57 (conN l Z a0 hw b42 (1 : Int32) _ n0 z52 c43 k43 [(.long (-9223372036854775808 : Int64)), (.long p1), (.long p2)] f56 V52 0 ⟨by decide, by decide⟩ rfl (Nat.le_of_ble_eq_true rfl) g_c43 (-9223372036854775808 : Int64) rfl) e52 pd0 [(.int (1 : Int32))] [] rfl rfl rfl (Nat.le_of_eq rfl) (by decide) (by decide) (by rw [hml]; rfl) (hb hby at_136) (by decide) (by decide) rfl ?_
          intro v55 T55 L55 X55 q55
          obtain ⟨rfl, M55, K55, V55⟩ := q55
          obtain ⟨h55, e55⟩ : ∃ z, z = T55.heap := ⟨_, rfl⟩
          rw [← e55] at K55 V55
          have e55 := e55.symm
          have z55 : n0 ≤ h55.size := Nat.le_trans z52 K55.1
          have N55 := Fr.app N52 M55
          have hlt : (-9223372036854775808 : Int64) < (9223372036854775807 : Int64) := by decide
          rw [if_pos hlt] at V55
          have V55 : Arv Z h55 c43 k43 .long 3 [(.long ((-9223372036854775808 : Int64) + 1)), (.long p1), (.long p2)] (.long 0) := V55
          show own_WP _ _ _ _ _ _ _ (T55.setTop (mkF m 139 #[.val (.long p0), .second, .val (.long p1), .second, .val (.long p2), .second, .val (.int p3), .val (.int (1 : Int32)), .val (.int v2), .val (.ref b3), .val (.ref b42)] []))
          refine own_aload (pc' := 141) X55 hx (hb hby at_139) rfl rfl rfl ?_
          refine own_iconst (pc' := 142) X55 hx (1 : Int32) (hb hby at_141) rfl rfl ?_
          have f59 := (f56.keep K55 (ninS ne_b42_c43 nin0))
          have f60 := (f57.keep K55)
          refine own_callV (pc' := 145) (W := 0) (y := (⟨"com/example/eventual_leader/eventualleader/election/RecoveryCounts", "of", "(I)J"⟩ : MethodName)) (z := (⟨"com/example/eventual_leader/eventualleader/election/RecoveryCounts", "of", "(I)J"⟩ : MethodName)) X55 hx hZ hown (own_w hw 24 rfl) (own_w hw 25 rfl) (notFace_of_selects (args := #[]) (mvT hZ (own_w hw 27 rfl))) (own_w hw 27 rfl) (own_w hw 26 rfl) (own_w hw 4 rfl) (own_w hw 28 rfl) (by decide) f60 (conO l Z a0 hw b42 (1 : Int32) _ c43 k43 [(.long ((-9223372036854775808 : Int64) + 1)), (.long p1), (.long p2)] f59 V55 0 ⟨by decide, by decide⟩ rfl ((-9223372036854775808 : Int64) + 1) rfl) e55 pd2 [(.int (1 : Int32))] [] rfl rfl rfl (Nat.le_of_eq rfl) (by decide) (by decide) (by rw [hml]; rfl) (hb hby at_142) (by decide) (by decide) rfl ?_
          intro v58 T58 L58 X58 q58
          obtain ⟨r58, rfl, hr58, rfl, e58⟩ := q58
          have N58 := Fr.app N55 (Fr.nil n0)
          show own_WP _ _ _ _ _ _ _ (T58.setTop (mkF m 145 #[.val (.long p0), .second, .val (.long p1), .second, .val (.long p2), .second, .val (.int p3), .val (.int (1 : Int32)), .val (.int v2), .val (.ref b3), .val (.ref b42)] [(.long r58)]))
          refine own_iconst (pc' := 146) X58 hx (1 : Int32) (hb hby at_145) rfl rfl ?_
          refine own_iload (pc' := 148) X58 hx (hb hby at_146) rfl rfl ?_
          refine own_aload (pc' := 150) X58 hx (hb hby at_148) rfl rfl rfl ?_
          refine own_iconst (pc' := 151) X58 hx (0 : Int32) (hb hby at_150) rfl rfl ?_
          have f61 := ((f51.keep K52 (ninS ne_b3_c43 nin0)).keep K55 (ninS ne_b3_c43 nin0))
          refine own_laload (pc' := 152) (v := (.long (-9223372036854775808 : Int64))) X58 hx hZ e58 f61 ⟨by decide, by decide⟩ rfl (hb hby at_151) rfl ?_
          refine own_callS (pc' := 155) (W := 2) (y := (⟨"com/example/eventual_leader/eventualleader/election/RecoveryCountsIncrementPinLaw", "expect", "(IIJ)J"⟩ : MethodName)) X58 hx hZ hown (own_w hw 29 rfl) (own_w hw 30 rfl) (own_w hw 31 rfl) (own_w hw 32 rfl) (by decide) (conX l Z a0 hw (1 : Int32) (1 : Int32) (-9223372036854775808 : Int64) _ ) e58 pd3 [(.int (1 : Int32)), (.int (1 : Int32)), (.long (-9223372036854775808 : Int64))] [(.long r58)] rfl rfl rfl (Nat.le_of_eq rfl) (by decide) (by decide) (by rw [hml]; rfl) (hb hby at_152) (by decide) (by decide) rfl ?_
          intro v62 T62 L62 X62 q62
          obtain ⟨r62, rfl, hr62, rfl, e62⟩ := q62
          have N62 := Fr.app N58 (Fr.nil n0)
          show own_WP _ _ _ _ _ _ _ (T62.setTop (mkF m 155 #[.val (.long p0), .second, .val (.long p1), .second, .val (.long p2), .second, .val (.int p3), .val (.int (1 : Int32)), .val (.int v2), .val (.ref b3), .val (.ref b42)] [(.long r62), (.long r58)]))
          refine own_lcmp (pc' := 156) X62 hx (hb hby at_155) rfl ?_
          refine own_ifl_ne (pt := 203) (pf := 159) X62 hx (hb hby at_156) rfl (by decide) rfl (fun hc156 => absurd (by rw [hr58, hr62]; exact (own_exY hlt).symm) hc156) (fun hc156 => ?_)
          refine own_aload (pc' := 161) X62 hx (hb hby at_159) rfl rfl rfl ?_
          refine own_iconst (pc' := 162) X62 hx (2 : Int32) (hb hby at_161) rfl rfl ?_
          refine own_callV (pc' := 165) (W := 0) (y := (⟨"com/example/eventual_leader/eventualleader/election/RecoveryCounts", "of", "(I)J"⟩ : MethodName)) (z := (⟨"com/example/eventual_leader/eventualleader/election/RecoveryCounts", "of", "(I)J"⟩ : MethodName)) X62 hx hZ hown (own_w hw 24 rfl) (own_w hw 25 rfl) (notFace_of_selects (args := #[]) (mvT hZ (own_w hw 27 rfl))) (own_w hw 27 rfl) (own_w hw 26 rfl) (own_w hw 4 rfl) (own_w hw 28 rfl) (by decide) f60 (conO l Z a0 hw b42 (2 : Int32) _ c43 k43 [(.long ((-9223372036854775808 : Int64) + 1)), (.long p1), (.long p2)] f59 V55 1 ⟨by decide, by decide⟩ rfl p1 rfl) e62 pd2 [(.int (2 : Int32))] [] rfl rfl rfl (Nat.le_of_eq rfl) (by decide) (by decide) (by rw [hml]; rfl) (hb hby at_162) (by decide) (by decide) rfl ?_
          intro v63 T63 L63 X63 q63
          obtain ⟨r63, rfl, hr63, rfl, e63⟩ := q63
          have N63 := Fr.app N62 (Fr.nil n0)
          show own_WP _ _ _ _ _ _ _ (T63.setTop (mkF m 165 #[.val (.long p0), .second, .val (.long p1), .second, .val (.long p2), .second, .val (.int p3), .val (.int (1 : Int32)), .val (.int v2), .val (.ref b3), .val (.ref b42)] [(.long r63)]))
          refine own_iconst (pc' := 166) X63 hx (2 : Int32) (hb hby at_165) rfl rfl ?_
          refine own_iload (pc' := 168) X63 hx (hb hby at_166) rfl rfl ?_
          refine own_aload (pc' := 170) X63 hx (hb hby at_168) rfl rfl rfl ?_
          refine own_iconst (pc' := 171) X63 hx (1 : Int32) (hb hby at_170) rfl rfl ?_
          refine own_laload (pc' := 172) (v := (.long p1)) X63 hx hZ e63 f61 ⟨by decide, by decide⟩ rfl (hb hby at_171) rfl ?_
          refine own_callS (pc' := 175) (W := 2) (y := (⟨"com/example/eventual_leader/eventualleader/election/RecoveryCountsIncrementPinLaw", "expect", "(IIJ)J"⟩ : MethodName)) X63 hx hZ hown (own_w hw 29 rfl) (own_w hw 30 rfl) (own_w hw 31 rfl) (own_w hw 32 rfl) (by decide) (conX l Z a0 hw (2 : Int32) (1 : Int32) p1 _ ) e63 pd3 [(.int (2 : Int32)), (.int (1 : Int32)), (.long p1)] [(.long r63)] rfl rfl rfl (Nat.le_of_eq rfl) (by decide) (by decide) (by rw [hml]; rfl) (hb hby at_172) (by decide) (by decide) rfl ?_
          intro v64 T64 L64 X64 q64
          obtain ⟨r64, rfl, hr64, rfl, e64⟩ := q64
          have N64 := Fr.app N63 (Fr.nil n0)
          show own_WP _ _ _ _ _ _ _ (T64.setTop (mkF m 175 #[.val (.long p0), .second, .val (.long p1), .second, .val (.long p2), .second, .val (.int p3), .val (.int (1 : Int32)), .val (.int v2), .val (.ref b3), .val (.ref b42)] [(.long r64), (.long r63)]))
          refine own_lcmp (pc' := 176) X64 hx (hb hby at_175) rfl ?_
          refine own_ifl_ne (pt := 203) (pf := 179) X64 hx (hb hby at_176) rfl (by decide) rfl (fun hc176 => absurd (by rw [hr63, hr64]; exact (own_exN (by decide)).symm) hc176) (fun hc176 => ?_)
          refine own_aload (pc' := 181) X64 hx (hb hby at_179) rfl rfl rfl ?_
          refine own_iconst (pc' := 182) X64 hx (3 : Int32) (hb hby at_181) rfl rfl ?_
          refine own_callV (pc' := 185) (W := 0) (y := (⟨"com/example/eventual_leader/eventualleader/election/RecoveryCounts", "of", "(I)J"⟩ : MethodName)) (z := (⟨"com/example/eventual_leader/eventualleader/election/RecoveryCounts", "of", "(I)J"⟩ : MethodName)) X64 hx hZ hown (own_w hw 24 rfl) (own_w hw 25 rfl) (notFace_of_selects (args := #[]) (mvT hZ (own_w hw 27 rfl))) (own_w hw 27 rfl) (own_w hw 26 rfl) (own_w hw 4 rfl) (own_w hw 28 rfl) (by decide) f60 (conO l Z a0 hw b42 (3 : Int32) _ c43 k43 [(.long ((-9223372036854775808 : Int64) + 1)), (.long p1), (.long p2)] f59 V55 2 ⟨by decide, by decide⟩ rfl p2 rfl) e64 pd2 [(.int (3 : Int32))] [] rfl rfl rfl (Nat.le_of_eq rfl) (by decide) (by decide) (by rw [hml]; rfl) (hb hby at_182) (by decide) (by decide) rfl ?_
          intro v65 T65 L65 X65 q65
          obtain ⟨r65, rfl, hr65, rfl, e65⟩ := q65
          have N65 := Fr.app N64 (Fr.nil n0)
          show own_WP _ _ _ _ _ _ _ (T65.setTop (mkF m 185 #[.val (.long p0), .second, .val (.long p1), .second, .val (.long p2), .second, .val (.int p3), .val (.int (1 : Int32)), .val (.int v2), .val (.ref b3), .val (.ref b42)] [(.long r65)]))
          refine own_iconst (pc' := 186) X65 hx (3 : Int32) (hb hby at_185) rfl rfl ?_
          refine own_iload (pc' := 188) X65 hx (hb hby at_186) rfl rfl ?_
          refine own_aload (pc' := 190) X65 hx (hb hby at_188) rfl rfl rfl ?_
          refine own_iconst (pc' := 191) X65 hx (2 : Int32) (hb hby at_190) rfl rfl ?_
          refine own_laload (pc' := 192) (v := (.long p2)) X65 hx hZ e65 f61 ⟨by decide, by decide⟩ rfl (hb hby at_191) rfl ?_
          refine own_callS (pc' := 195) (W := 2) (y := (⟨"com/example/eventual_leader/eventualleader/election/RecoveryCountsIncrementPinLaw", "expect", "(IIJ)J"⟩ : MethodName)) X65 hx hZ hown (own_w hw 29 rfl) (own_w hw 30 rfl) (own_w hw 31 rfl) (own_w hw 32 rfl) (by decide) (conX l Z a0 hw (3 : Int32) (1 : Int32) p2 _ ) e65 pd3 [(.int (3 : Int32)), (.int (1 : Int32)), (.long p2)] [(.long r65)] rfl rfl rfl (Nat.le_of_eq rfl) (by decide) (by decide) (by rw [hml]; rfl) (hb hby at_192) (by decide) (by decide) rfl ?_
          intro v66 T66 L66 X66 q66
          obtain ⟨r66, rfl, hr66, rfl, e66⟩ := q66
          have N66 := Fr.app N65 (Fr.nil n0)
          show own_WP _ _ _ _ _ _ _ (T66.setTop (mkF m 195 #[.val (.long p0), .second, .val (.long p1), .second, .val (.long p2), .second, .val (.int p3), .val (.int (1 : Int32)), .val (.int v2), .val (.ref b3), .val (.ref b42)] [(.long r66), (.long r65)]))
          refine own_lcmp (pc' := 196) X66 hx (hb hby at_195) rfl ?_
          refine own_ifl_ne (pt := 203) (pf := 199) X66 hx (hb hby at_196) rfl (by decide) rfl (fun hc196 => absurd (by rw [hr65, hr66]; exact (own_exN (by decide)).symm) hc196) (fun hc196 => ?_)
          refine own_iconst (pc' := 200) X66 hx (1 : Int32) (hb hby at_199) rfl rfl ?_
          refine own_goto (pc' := 204) X66 hx (hb hby at_200) (by decide) rfl ?_
          refine own_retN X66 hx hlk (t := .boolean) (by decide) hret (hb hby at_204) (by decide) (by decide) ?_
          exact ⟨rfl, N66⟩
      · skip
        refine own_aload (pc' := 65) X6 hx (hb hby at_63) rfl rfl rfl ?_
        refine own_iload (pc' := 67) X6 hx (hb hby at_65) rfl rfl ?_
        refine own_iconst (pc' := 68) X6 hx (1 : Int32) (hb hby at_67) rfl rfl ?_
        refine own_isub (pc' := 69) X6 hx (hb hby at_68) rfl ?_
        show own_WP _ _ _ _ _ _ _ (T6.setTop (mkF m 69 #[.val (.long p0), .second, .val (.long p1), .second, .val (.long p2), .second, .val (.int p3), .val (.int (1 : Int32)), .val (.int v2), .val (.ref b3), .unset] [(.int (0 : Int32)), (.ref b3)]))
        refine own_ldc2Long (pc' := 72) X6 hx hZ hown (own_w hw 34 rfl) (hb hby at_69) rfl ?_
        refine own_lastore (pc' := 73) X6 hx hZ e6 V6 ⟨by decide, by decide⟩ 0 rfl (Nat.le_of_ble_eq_true rfl) (hb hby at_72) rfl ?_
        intro T67 h67 X67 e67 W67 V67
        have z67 : n0 ≤ h67.size := Nat.le_trans z6 (Keep.of_wr W67).1
        have V67 : Arv Z h67 b3 k3 .long (3 : Int32) [(.long (9223372036854775806 : Int64)), (.long p1), (.long p2)] (.long (0 : Int64)) := V67
        have N67 := Fr.snoc X67 N6 g_b3
        refine own_goto (pc' := 92) X67 hx (hb hby at_73) (by decide) rfl ?_
        refine own_new (pc' := 95) X67 hx hZ hown (own_w hw 2 rfl) (own_w hw 3 rfl) (own_w hw 4 rfl) e67 (hb hby at_92) (by decide) (by decide) rfl ?_
        intro T68 h68 b68 g68 X68 e68 E68 A68 D68
        have ne_b3_b68 : b3 ≠ b68 := Nat.ne_of_lt (Nat.lt_of_lt_of_le V67.lt (Nat.le_of_eq g68.symm))
        have ne_b68_b3 := ne_b3_b68.symm
        have g_b68 : n0 ≤ b68 := Nat.le_trans z67 (Nat.le_of_eq g68.symm)
        have z68 : n0 ≤ h68.size := Nat.le_trans z67 E68.1
        have F68_counts : Fld Z h68 b68 "com/example/eventual_leader/eventualleader/election/RecoveryCounts" "counts" "[J" .null := D68 (Or.inr (own_w hw 12 rfl)) (ty := (.array .long)) (by decide +kernel)
        refine own_dup (pc' := 96) X68 hx (hb hby at_95) rfl rfl ?_
        refine own_iconst (pc' := 97) X68 hx (3 : Int32) (hb hby at_96) rfl rfl ?_
        refine own_callN (pc' := 100) (W := 1) (y := (⟨"com/example/eventual_leader/eventualleader/election/RecoveryCounts", "<init>", "(I)V"⟩ : MethodName)) X68 hx hZ rfl hown (own_w hw 5 rfl) (own_w hw 6 rfl) (own_w hw 4 rfl) (own_w hw 7 rfl) (by decide) (conI l Z a0 hw b68 _ n0 z68 A68 F68_counts g_b68) e68 pd0 b68 [(.int (3 : Int32))] [(.ref b68)] rfl rfl rfl (Nat.le_of_eq rfl) (by decide) (by decide) (by rw [hml]; rfl) (hb hby at_97) (by decide) (by decide) rfl ?_
        intro v69 T69 L69 X69 q69
        obtain ⟨c69, k69, rfl, M69, K69, E69q, F69q, V69, g_c69, s69⟩ := q69
        have f70 := (V67.ext E68)
        have ne_b3_c69 : b3 ≠ c69 := Nat.ne_of_lt (Nat.lt_of_lt_of_le f70.lt s69)
        have ne_c69_b3 := ne_b3_c69.symm
        have ne_b68_c69 : b68 ≠ c69 := Nat.ne_of_lt (Nat.lt_of_lt_of_le A68.lt s69)
        have ne_c69_b68 := ne_b68_c69.symm
        obtain ⟨h69, e69⟩ : ∃ z, z = T69.heap := ⟨_, rfl⟩
        rw [← e69] at K69 E69q F69q V69
        have e69 := e69.symm
        have z69 : n0 ≤ h69.size := Nat.le_trans z68 K69.1
        have N69 := Fr.app N67 M69
        show own_WP _ _ _ _ _ _ _ (T69.setTop (mkF m 100 #[.val (.long p0), .second, .val (.long p1), .second, .val (.long p2), .second, .val (.int p3), .val (.int (1 : Int32)), .val (.int v2), .val (.ref b3), .unset] [(.ref b68)]))
        refine own_astore (pc' := 102) (l' := #[.val (.long p0), .second, .val (.long p1), .second, .val (.long p2), .second, .val (.int p3), .val (.int (1 : Int32)), .val (.int v2), .val (.ref b3), .val (.ref b68)]) X69 hx (hb hby at_100) rfl rfl rfl ?_
        refine own_aload (pc' := 104) X69 hx (hb hby at_102) rfl rfl rfl ?_
        refine own_iconst (pc' := 105) X69 hx (1 : Int32) (hb hby at_104) rfl rfl ?_
        refine own_aload (pc' := 107) X69 hx (hb hby at_105) rfl rfl rfl ?_
        refine own_iconst (pc' := 108) X69 hx (0 : Int32) (hb hby at_107) rfl rfl ?_
        have f71 := (f70.keep K69 (ninS ne_b3_b68 nin0))
        refine own_laload (pc' := 109) (v := (.long (9223372036854775806 : Int64))) X69 hx hZ e69 f71 ⟨by decide, by decide⟩ rfl (hb hby at_108) rfl ?_
        refine own_callV (pc' := 112) (W := 0) (y := (⟨"com/example/eventual_leader/eventualleader/election/RecoveryCounts", "set", "(IJ)V"⟩ : MethodName)) (z := (⟨"com/example/eventual_leader/eventualleader/election/RecoveryCounts", "set", "(IJ)V"⟩ : MethodName)) X69 hx hZ hown (own_w hw 13 rfl) (own_w hw 14 rfl) (notFace_of_selects (args := #[]) (mvT hZ (own_w hw 16 rfl))) (own_w hw 16 rfl) (own_w hw 15 rfl) (own_w hw 4 rfl) (own_w hw 17 rfl) (by decide) E69q (conS l Z a0 hw b68 (1 : Int32) (9223372036854775806 : Int64) _ n0 z69 c69 k69 [(.long (0 : Int64)), (.long (0 : Int64)), (.long (0 : Int64))] F69q V69 0 ⟨by decide, by decide⟩ rfl (Nat.le_of_ble_eq_true rfl) g_c69) e69 pd1 [(.int (1 : Int32)), (.long (9223372036854775806 : Int64))] [] rfl rfl rfl (Nat.le_of_eq rfl) (by decide) (by decide) (by rw [hml]; rfl) (hb hby at_109) (by decide) (by decide) rfl ?_
        intro v72 T72 L72 X72 q72
        obtain ⟨rfl, M72, K72, V72⟩ := q72
        obtain ⟨h72, e72⟩ : ∃ z, z = T72.heap := ⟨_, rfl⟩
        rw [← e72] at K72 V72
        have e72 := e72.symm
        have z72 : n0 ≤ h72.size := Nat.le_trans z69 K72.1
        have V72 : Arv Z h72 c69 k69 .long 3 [(.long (9223372036854775806 : Int64)), (.long (0 : Int64)), (.long (0 : Int64))] (.long 0) := V72
        have N72 := Fr.app N69 M72
        show own_WP _ _ _ _ _ _ _ (T72.setTop (mkF m 112 #[.val (.long p0), .second, .val (.long p1), .second, .val (.long p2), .second, .val (.int p3), .val (.int (1 : Int32)), .val (.int v2), .val (.ref b3), .val (.ref b68)] []))
        refine own_aload (pc' := 114) X72 hx (hb hby at_112) rfl rfl rfl ?_
        refine own_iconst (pc' := 115) X72 hx (2 : Int32) (hb hby at_114) rfl rfl ?_
        refine own_aload (pc' := 117) X72 hx (hb hby at_115) rfl rfl rfl ?_
        refine own_iconst (pc' := 118) X72 hx (1 : Int32) (hb hby at_117) rfl rfl ?_
        have f73 := (f71.keep K72 (ninS ne_b3_c69 nin0))
        refine own_laload (pc' := 119) (v := (.long p1)) X72 hx hZ e72 f73 ⟨by decide, by decide⟩ rfl (hb hby at_118) rfl ?_
        have f75 := (F69q.keep K72 (ninS ne_b68_c69 nin0))
        have f76 := (E69q.keep K72)
        refine own_callV (pc' := 122) (W := 0) (y := (⟨"com/example/eventual_leader/eventualleader/election/RecoveryCounts", "set", "(IJ)V"⟩ : MethodName)) (z := (⟨"com/example/eventual_leader/eventualleader/election/RecoveryCounts", "set", "(IJ)V"⟩ : MethodName)) X72 hx hZ hown (own_w hw 13 rfl) (own_w hw 14 rfl) (notFace_of_selects (args := #[]) (mvT hZ (own_w hw 16 rfl))) (own_w hw 16 rfl) (own_w hw 15 rfl) (own_w hw 4 rfl) (own_w hw 17 rfl) (by decide) f76 (conS l Z a0 hw b68 (2 : Int32) p1 _ n0 z72 c69 k69 [(.long (9223372036854775806 : Int64)), (.long (0 : Int64)), (.long (0 : Int64))] f75 V72 1 ⟨by decide, by decide⟩ rfl (Nat.le_of_ble_eq_true rfl) g_c69) e72 pd1 [(.int (2 : Int32)), (.long p1)] [] rfl rfl rfl (Nat.le_of_eq rfl) (by decide) (by decide) (by rw [hml]; rfl) (hb hby at_119) (by decide) (by decide) rfl ?_
        intro v74 T74 L74 X74 q74
        obtain ⟨rfl, M74, K74, V74⟩ := q74
        obtain ⟨h74, e74⟩ : ∃ z, z = T74.heap := ⟨_, rfl⟩
        rw [← e74] at K74 V74
        have e74 := e74.symm
        have z74 : n0 ≤ h74.size := Nat.le_trans z72 K74.1
        have V74 : Arv Z h74 c69 k69 .long 3 [(.long (9223372036854775806 : Int64)), (.long p1), (.long (0 : Int64))] (.long 0) := V74
        have N74 := Fr.app N72 M74
        show own_WP _ _ _ _ _ _ _ (T74.setTop (mkF m 122 #[.val (.long p0), .second, .val (.long p1), .second, .val (.long p2), .second, .val (.int p3), .val (.int (1 : Int32)), .val (.int v2), .val (.ref b3), .val (.ref b68)] []))
        refine own_aload (pc' := 124) X74 hx (hb hby at_122) rfl rfl rfl ?_
        refine own_iconst (pc' := 125) X74 hx (3 : Int32) (hb hby at_124) rfl rfl ?_
        refine own_aload (pc' := 127) X74 hx (hb hby at_125) rfl rfl rfl ?_
        refine own_iconst (pc' := 128) X74 hx (2 : Int32) (hb hby at_127) rfl rfl ?_
        have f77 := (f73.keep K74 (ninS ne_b3_c69 nin0))
        refine own_laload (pc' := 129) (v := (.long p2)) X74 hx hZ e74 f77 ⟨by decide, by decide⟩ rfl (hb hby at_128) rfl ?_
        have f79 := (f75.keep K74 (ninS ne_b68_c69 nin0))
        have f80 := (f76.keep K74)
        refine own_callV (pc' := 132) (W := 0) (y := (⟨"com/example/eventual_leader/eventualleader/election/RecoveryCounts", "set", "(IJ)V"⟩ : MethodName)) (z := (⟨"com/example/eventual_leader/eventualleader/election/RecoveryCounts", "set", "(IJ)V"⟩ : MethodName)) X74 hx hZ hown (own_w hw 13 rfl) (own_w hw 14 rfl) (notFace_of_selects (args := #[]) (mvT hZ (own_w hw 16 rfl))) (own_w hw 16 rfl) (own_w hw 15 rfl) (own_w hw 4 rfl) (own_w hw 17 rfl) (by decide) f80 (conS l Z a0 hw b68 (3 : Int32) p2 _ n0 z74 c69 k69 [(.long (9223372036854775806 : Int64)), (.long p1), (.long (0 : Int64))] f79 V74 2 ⟨by decide, by decide⟩ rfl (Nat.le_of_ble_eq_true rfl) g_c69) e74 pd1 [(.int (3 : Int32)), (.long p2)] [] rfl rfl rfl (Nat.le_of_eq rfl) (by decide) (by decide) (by rw [hml]; rfl) (hb hby at_129) (by decide) (by decide) rfl ?_
        intro v78 T78 L78 X78 q78
        obtain ⟨rfl, M78, K78, V78⟩ := q78
        obtain ⟨h78, e78⟩ : ∃ z, z = T78.heap := ⟨_, rfl⟩
        rw [← e78] at K78 V78
        have e78 := e78.symm
        have z78 : n0 ≤ h78.size := Nat.le_trans z74 K78.1
        have V78 : Arv Z h78 c69 k69 .long 3 [(.long (9223372036854775806 : Int64)), (.long p1), (.long p2)] (.long 0) := V78
        have N78 := Fr.app N74 M78
        show own_WP _ _ _ _ _ _ _ (T78.setTop (mkF m 132 #[.val (.long p0), .second, .val (.long p1), .second, .val (.long p2), .second, .val (.int p3), .val (.int (1 : Int32)), .val (.int v2), .val (.ref b3), .val (.ref b68)] []))
        refine own_aload (pc' := 134) X78 hx (hb hby at_132) rfl rfl rfl ?_
        refine own_iload (pc' := 136) X78 hx (hb hby at_134) rfl rfl ?_
        have f82 := (f79.keep K78 (ninS ne_b68_c69 nin0))
        have f83 := (f80.keep K78)
        refine own_callV (pc' := 139) (W := 0) (y := (⟨"com/example/eventual_leader/eventualleader/election/RecoveryCounts", "increment", "(I)V"⟩ : MethodName)) (z := (⟨"com/example/eventual_leader/eventualleader/election/RecoveryCounts", "increment", "(I)V"⟩ : MethodName)) X78 hx hZ hown (own_w hw 18 rfl) (own_w hw 19 rfl) (notFace_of_selects (args := #[]) (mvT hZ (own_w hw 21 rfl))) (own_w hw 21 rfl) (own_w hw 20 rfl) (own_w hw 4 rfl) (own_w hw 22 rfl) (by decide) f83 (conN l Z a0 hw b68 (1 : Int32) _ n0 z78 c69 k69 [(.long (9223372036854775806 : Int64)), (.long p1), (.long p2)] f82 V78 0 ⟨by decide, by decide⟩ rfl (Nat.le_of_ble_eq_true rfl) g_c69 (9223372036854775806 : Int64) rfl) e78 pd0 [(.int (1 : Int32))] [] rfl rfl rfl (Nat.le_of_eq rfl) (by decide) (by decide) (by rw [hml]; rfl) (hb hby at_136) (by decide) (by decide) rfl ?_
        intro v81 T81 L81 X81 q81
        obtain ⟨rfl, M81, K81, V81⟩ := q81
        obtain ⟨h81, e81⟩ : ∃ z, z = T81.heap := ⟨_, rfl⟩
        rw [← e81] at K81 V81
        have e81 := e81.symm
        have z81 : n0 ≤ h81.size := Nat.le_trans z78 K81.1
        have N81 := Fr.app N78 M81
        have hlt : (9223372036854775806 : Int64) < (9223372036854775807 : Int64) := by decide
        rw [if_pos hlt] at V81
        have V81 : Arv Z h81 c69 k69 .long 3 [(.long ((9223372036854775806 : Int64) + 1)), (.long p1), (.long p2)] (.long 0) := V81
        show own_WP _ _ _ _ _ _ _ (T81.setTop (mkF m 139 #[.val (.long p0), .second, .val (.long p1), .second, .val (.long p2), .second, .val (.int p3), .val (.int (1 : Int32)), .val (.int v2), .val (.ref b3), .val (.ref b68)] []))
        refine own_aload (pc' := 141) X81 hx (hb hby at_139) rfl rfl rfl ?_
        refine own_iconst (pc' := 142) X81 hx (1 : Int32) (hb hby at_141) rfl rfl ?_
        have f85 := (f82.keep K81 (ninS ne_b68_c69 nin0))
        have f86 := (f83.keep K81)
        refine own_callV (pc' := 145) (W := 0) (y := (⟨"com/example/eventual_leader/eventualleader/election/RecoveryCounts", "of", "(I)J"⟩ : MethodName)) (z := (⟨"com/example/eventual_leader/eventualleader/election/RecoveryCounts", "of", "(I)J"⟩ : MethodName)) X81 hx hZ hown (own_w hw 24 rfl) (own_w hw 25 rfl) (notFace_of_selects (args := #[]) (mvT hZ (own_w hw 27 rfl))) (own_w hw 27 rfl) (own_w hw 26 rfl) (own_w hw 4 rfl) (own_w hw 28 rfl) (by decide) f86 (conO l Z a0 hw b68 (1 : Int32) _ c69 k69 [(.long ((9223372036854775806 : Int64) + 1)), (.long p1), (.long p2)] f85 V81 0 ⟨by decide, by decide⟩ rfl ((9223372036854775806 : Int64) + 1) rfl) e81 pd2 [(.int (1 : Int32))] [] rfl rfl rfl (Nat.le_of_eq rfl) (by decide) (by decide) (by rw [hml]; rfl) (hb hby at_142) (by decide) (by decide) rfl ?_
        intro v84 T84 L84 X84 q84
        obtain ⟨r84, rfl, hr84, rfl, e84⟩ := q84
        have N84 := Fr.app N81 (Fr.nil n0)
        show own_WP _ _ _ _ _ _ _ (T84.setTop (mkF m 145 #[.val (.long p0), .second, .val (.long p1), .second, .val (.long p2), .second, .val (.int p3), .val (.int (1 : Int32)), .val (.int v2), .val (.ref b3), .val (.ref b68)] [(.long r84)]))
        refine own_iconst (pc' := 146) X84 hx (1 : Int32) (hb hby at_145) rfl rfl ?_
        refine own_iload (pc' := 148) X84 hx (hb hby at_146) rfl rfl ?_
        refine own_aload (pc' := 150) X84 hx (hb hby at_148) rfl rfl rfl ?_
        refine own_iconst (pc' := 151) X84 hx (0 : Int32) (hb hby at_150) rfl rfl ?_
        have f87 := ((f77.keep K78 (ninS ne_b3_c69 nin0)).keep K81 (ninS ne_b3_c69 nin0))
        refine own_laload (pc' := 152) (v := (.long (9223372036854775806 : Int64))) X84 hx hZ e84 f87 ⟨by decide, by decide⟩ rfl (hb hby at_151) rfl ?_
        refine own_callS (pc' := 155) (W := 2) (y := (⟨"com/example/eventual_leader/eventualleader/election/RecoveryCountsIncrementPinLaw", "expect", "(IIJ)J"⟩ : MethodName)) X84 hx hZ hown (own_w hw 29 rfl) (own_w hw 30 rfl) (own_w hw 31 rfl) (own_w hw 32 rfl) (by decide) (conX l Z a0 hw (1 : Int32) (1 : Int32) (9223372036854775806 : Int64) _ ) e84 pd3 [(.int (1 : Int32)), (.int (1 : Int32)), (.long (9223372036854775806 : Int64))] [(.long r84)] rfl rfl rfl (Nat.le_of_eq rfl) (by decide) (by decide) (by rw [hml]; rfl) (hb hby at_152) (by decide) (by decide) rfl ?_
        intro v88 T88 L88 X88 q88
        obtain ⟨r88, rfl, hr88, rfl, e88⟩ := q88
        have N88 := Fr.app N84 (Fr.nil n0)
        show own_WP _ _ _ _ _ _ _ (T88.setTop (mkF m 155 #[.val (.long p0), .second, .val (.long p1), .second, .val (.long p2), .second, .val (.int p3), .val (.int (1 : Int32)), .val (.int v2), .val (.ref b3), .val (.ref b68)] [(.long r88), (.long r84)]))
        refine own_lcmp (pc' := 156) X88 hx (hb hby at_155) rfl ?_
        refine own_ifl_ne (pt := 203) (pf := 159) X88 hx (hb hby at_156) rfl (by decide) rfl (fun hc156 => absurd (by rw [hr84, hr88]; exact (own_exY hlt).symm) hc156) (fun hc156 => ?_)
        refine own_aload (pc' := 161) X88 hx (hb hby at_159) rfl rfl rfl ?_
        refine own_iconst (pc' := 162) X88 hx (2 : Int32) (hb hby at_161) rfl rfl ?_
        refine own_callV (pc' := 165) (W := 0) (y := (⟨"com/example/eventual_leader/eventualleader/election/RecoveryCounts", "of", "(I)J"⟩ : MethodName)) (z := (⟨"com/example/eventual_leader/eventualleader/election/RecoveryCounts", "of", "(I)J"⟩ : MethodName)) X88 hx hZ hown (own_w hw 24 rfl) (own_w hw 25 rfl) (notFace_of_selects (args := #[]) (mvT hZ (own_w hw 27 rfl))) (own_w hw 27 rfl) (own_w hw 26 rfl) (own_w hw 4 rfl) (own_w hw 28 rfl) (by decide) f86 (conO l Z a0 hw b68 (2 : Int32) _ c69 k69 [(.long ((9223372036854775806 : Int64) + 1)), (.long p1), (.long p2)] f85 V81 1 ⟨by decide, by decide⟩ rfl p1 rfl) e88 pd2 [(.int (2 : Int32))] [] rfl rfl rfl (Nat.le_of_eq rfl) (by decide) (by decide) (by rw [hml]; rfl) (hb hby at_162) (by decide) (by decide) rfl ?_
        intro v89 T89 L89 X89 q89
        obtain ⟨r89, rfl, hr89, rfl, e89⟩ := q89
        have N89 := Fr.app N88 (Fr.nil n0)
        show own_WP _ _ _ _ _ _ _ (T89.setTop (mkF m 165 #[.val (.long p0), .second, .val (.long p1), .second, .val (.long p2), .second, .val (.int p3), .val (.int (1 : Int32)), .val (.int v2), .val (.ref b3), .val (.ref b68)] [(.long r89)]))
        refine own_iconst (pc' := 166) X89 hx (2 : Int32) (hb hby at_165) rfl rfl ?_
        refine own_iload (pc' := 168) X89 hx (hb hby at_166) rfl rfl ?_
        refine own_aload (pc' := 170) X89 hx (hb hby at_168) rfl rfl rfl ?_
        refine own_iconst (pc' := 171) X89 hx (1 : Int32) (hb hby at_170) rfl rfl ?_
        refine own_laload (pc' := 172) (v := (.long p1)) X89 hx hZ e89 f87 ⟨by decide, by decide⟩ rfl (hb hby at_171) rfl ?_
        refine own_callS (pc' := 175) (W := 2) (y := (⟨"com/example/eventual_leader/eventualleader/election/RecoveryCountsIncrementPinLaw", "expect", "(IIJ)J"⟩ : MethodName)) X89 hx hZ hown (own_w hw 29 rfl) (own_w hw 30 rfl) (own_w hw 31 rfl) (own_w hw 32 rfl) (by decide) (conX l Z a0 hw (2 : Int32) (1 : Int32) p1 _ ) e89 pd3 [(.int (2 : Int32)), (.int (1 : Int32)), (.long p1)] [(.long r89)] rfl rfl rfl (Nat.le_of_eq rfl) (by decide) (by decide) (by rw [hml]; rfl) (hb hby at_172) (by decide) (by decide) rfl ?_
        intro v90 T90 L90 X90 q90
        obtain ⟨r90, rfl, hr90, rfl, e90⟩ := q90
        have N90 := Fr.app N89 (Fr.nil n0)
        show own_WP _ _ _ _ _ _ _ (T90.setTop (mkF m 175 #[.val (.long p0), .second, .val (.long p1), .second, .val (.long p2), .second, .val (.int p3), .val (.int (1 : Int32)), .val (.int v2), .val (.ref b3), .val (.ref b68)] [(.long r90), (.long r89)]))
        refine own_lcmp (pc' := 176) X90 hx (hb hby at_175) rfl ?_
        refine own_ifl_ne (pt := 203) (pf := 179) X90 hx (hb hby at_176) rfl (by decide) rfl (fun hc176 => absurd (by rw [hr89, hr90]; exact (own_exN (by decide)).symm) hc176) (fun hc176 => ?_)
        refine own_aload (pc' := 181) X90 hx (hb hby at_179) rfl rfl rfl ?_
        refine own_iconst (pc' := 182) X90 hx (3 : Int32) (hb hby at_181) rfl rfl ?_
        refine own_callV (pc' := 185) (W := 0) (y := (⟨"com/example/eventual_leader/eventualleader/election/RecoveryCounts", "of", "(I)J"⟩ : MethodName)) (z := (⟨"com/example/eventual_leader/eventualleader/election/RecoveryCounts", "of", "(I)J"⟩ : MethodName)) X90 hx hZ hown (own_w hw 24 rfl) (own_w hw 25 rfl) (notFace_of_selects (args := #[]) (mvT hZ (own_w hw 27 rfl))) (own_w hw 27 rfl) (own_w hw 26 rfl) (own_w hw 4 rfl) (own_w hw 28 rfl) (by decide) f86 (conO l Z a0 hw b68 (3 : Int32) _ c69 k69 [(.long ((9223372036854775806 : Int64) + 1)), (.long p1), (.long p2)] f85 V81 2 ⟨by decide, by decide⟩ rfl p2 rfl) e90 pd2 [(.int (3 : Int32))] [] rfl rfl rfl (Nat.le_of_eq rfl) (by decide) (by decide) (by rw [hml]; rfl) (hb hby at_182) (by decide) (by decide) rfl ?_
        intro v91 T91 L91 X91 q91
        obtain ⟨r91, rfl, hr91, rfl, e91⟩ := q91
        have N91 := Fr.app N90 (Fr.nil n0)
        show own_WP _ _ _ _ _ _ _ (T91.setTop (mkF m 185 #[.val (.long p0), .second, .val (.long p1), .second, .val (.long p2), .second, .val (.int p3), .val (.int (1 : Int32)), .val (.int v2), .val (.ref b3), .val (.ref b68)] [(.long r91)]))
        refine own_iconst (pc' := 186) X91 hx (3 : Int32) (hb hby at_185) rfl rfl ?_
        refine own_iload (pc' := 188) X91 hx (hb hby at_186) rfl rfl ?_
        refine own_aload (pc' := 190) X91 hx (hb hby at_188) rfl rfl rfl ?_
        refine own_iconst (pc' := 191) X91 hx (2 : Int32) (hb hby at_190) rfl rfl ?_
        refine own_laload (pc' := 192) (v := (.long p2)) X91 hx hZ e91 f87 ⟨by decide, by decide⟩ rfl (hb hby at_191) rfl ?_
        refine own_callS (pc' := 195) (W := 2) (y := (⟨"com/example/eventual_leader/eventualleader/election/RecoveryCountsIncrementPinLaw", "expect", "(IIJ)J"⟩ : MethodName)) X91 hx hZ hown (own_w hw 29 rfl) (own_w hw 30 rfl) (own_w hw 31 rfl) (own_w hw 32 rfl) (by decide) (conX l Z a0 hw (3 : Int32) (1 : Int32) p2 _ ) e91 pd3 [(.int (3 : Int32)), (.int (1 : Int32)), (.long p2)] [(.long r91)] rfl rfl rfl (Nat.le_of_eq rfl) (by decide) (by decide) (by rw [hml]; rfl) (hb hby at_192) (by decide) (by decide) rfl ?_
        intro v92 T92 L92 X92 q92
        obtain ⟨r92, rfl, hr92, rfl, e92⟩ := q92
        have N92 := Fr.app N91 (Fr.nil n0)
        show own_WP _ _ _ _ _ _ _ (T92.setTop (mkF m 195 #[.val (.long p0), .second, .val (.long p1), .second, .val (.long p2), .second, .val (.int p3), .val (.int (1 : Int32)), .val (.int v2), .val (.ref b3), .val (.ref b68)] [(.long r92), (.long r91)]))
        refine own_lcmp (pc' := 196) X92 hx (hb hby at_195) rfl ?_
        refine own_ifl_ne (pt := 203) (pf := 199) X92 hx (hb hby at_196) rfl (by decide) rfl (fun hc196 => absurd (by rw [hr91, hr92]; exact (own_exN (by decide)).symm) hc196) (fun hc196 => ?_)
        refine own_iconst (pc' := 200) X92 hx (1 : Int32) (hb hby at_199) rfl rfl ?_
        refine own_goto (pc' := 204) X92 hx (hb hby at_200) (by decide) rfl ?_
        refine own_retN X92 hx hlk (t := .boolean) (by decide) hret (hb hby at_204) (by decide) (by decide) ?_
        exact ⟨rfl, N92⟩
    · skip
      refine own_aload (pc' := 46) X6 hx (hb hby at_44) rfl rfl rfl ?_
      refine own_iload (pc' := 48) X6 hx (hb hby at_46) rfl rfl ?_
      refine own_iconst (pc' := 49) X6 hx (1 : Int32) (hb hby at_48) rfl rfl ?_
      refine own_isub (pc' := 50) X6 hx (hb hby at_49) rfl ?_
      show own_WP _ _ _ _ _ _ _ (T6.setTop (mkF m 50 #[.val (.long p0), .second, .val (.long p1), .second, .val (.long p2), .second, .val (.int p3), .val (.int (1 : Int32)), .val (.int v2), .val (.ref b3), .unset] [(.int (0 : Int32)), (.ref b3)]))
      refine own_ldc2Long (pc' := 53) X6 hx hZ hown (own_w hw 33 rfl) (hb hby at_50) rfl ?_
      refine own_lastore (pc' := 54) X6 hx hZ e6 V6 ⟨by decide, by decide⟩ 0 rfl (Nat.le_of_ble_eq_true rfl) (hb hby at_53) rfl ?_
      intro T93 h93 X93 e93 W93 V93
      have z93 : n0 ≤ h93.size := Nat.le_trans z6 (Keep.of_wr W93).1
      have V93 : Arv Z h93 b3 k3 .long (3 : Int32) [(.long (9223372036854775807 : Int64)), (.long p1), (.long p2)] (.long (0 : Int64)) := V93
      have N93 := Fr.snoc X93 N6 g_b3
      refine own_goto (pc' := 92) X93 hx (hb hby at_54) (by decide) rfl ?_
      refine own_new (pc' := 95) X93 hx hZ hown (own_w hw 2 rfl) (own_w hw 3 rfl) (own_w hw 4 rfl) e93 (hb hby at_92) (by decide) (by decide) rfl ?_
      intro T94 h94 b94 g94 X94 e94 E94 A94 D94
      have ne_b3_b94 : b3 ≠ b94 := Nat.ne_of_lt (Nat.lt_of_lt_of_le V93.lt (Nat.le_of_eq g94.symm))
      have ne_b94_b3 := ne_b3_b94.symm
      have g_b94 : n0 ≤ b94 := Nat.le_trans z93 (Nat.le_of_eq g94.symm)
      have z94 : n0 ≤ h94.size := Nat.le_trans z93 E94.1
      have F94_counts : Fld Z h94 b94 "com/example/eventual_leader/eventualleader/election/RecoveryCounts" "counts" "[J" .null := D94 (Or.inr (own_w hw 12 rfl)) (ty := (.array .long)) (by decide +kernel)
      refine own_dup (pc' := 96) X94 hx (hb hby at_95) rfl rfl ?_
      refine own_iconst (pc' := 97) X94 hx (3 : Int32) (hb hby at_96) rfl rfl ?_
      refine own_callN (pc' := 100) (W := 1) (y := (⟨"com/example/eventual_leader/eventualleader/election/RecoveryCounts", "<init>", "(I)V"⟩ : MethodName)) X94 hx hZ rfl hown (own_w hw 5 rfl) (own_w hw 6 rfl) (own_w hw 4 rfl) (own_w hw 7 rfl) (by decide) (conI l Z a0 hw b94 _ n0 z94 A94 F94_counts g_b94) e94 pd0 b94 [(.int (3 : Int32))] [(.ref b94)] rfl rfl rfl (Nat.le_of_eq rfl) (by decide) (by decide) (by rw [hml]; rfl) (hb hby at_97) (by decide) (by decide) rfl ?_
      intro v95 T95 L95 X95 q95
      obtain ⟨c95, k95, rfl, M95, K95, E95q, F95q, V95, g_c95, s95⟩ := q95
      have f96 := (V93.ext E94)
      have ne_b3_c95 : b3 ≠ c95 := Nat.ne_of_lt (Nat.lt_of_lt_of_le f96.lt s95)
      have ne_c95_b3 := ne_b3_c95.symm
      have ne_b94_c95 : b94 ≠ c95 := Nat.ne_of_lt (Nat.lt_of_lt_of_le A94.lt s95)
      have ne_c95_b94 := ne_b94_c95.symm
      obtain ⟨h95, e95⟩ : ∃ z, z = T95.heap := ⟨_, rfl⟩
      rw [← e95] at K95 E95q F95q V95
      have e95 := e95.symm
      have z95 : n0 ≤ h95.size := Nat.le_trans z94 K95.1
      have N95 := Fr.app N93 M95
      show own_WP _ _ _ _ _ _ _ (T95.setTop (mkF m 100 #[.val (.long p0), .second, .val (.long p1), .second, .val (.long p2), .second, .val (.int p3), .val (.int (1 : Int32)), .val (.int v2), .val (.ref b3), .unset] [(.ref b94)]))
      refine own_astore (pc' := 102) (l' := #[.val (.long p0), .second, .val (.long p1), .second, .val (.long p2), .second, .val (.int p3), .val (.int (1 : Int32)), .val (.int v2), .val (.ref b3), .val (.ref b94)]) X95 hx (hb hby at_100) rfl rfl rfl ?_
      refine own_aload (pc' := 104) X95 hx (hb hby at_102) rfl rfl rfl ?_
      refine own_iconst (pc' := 105) X95 hx (1 : Int32) (hb hby at_104) rfl rfl ?_
      refine own_aload (pc' := 107) X95 hx (hb hby at_105) rfl rfl rfl ?_
      refine own_iconst (pc' := 108) X95 hx (0 : Int32) (hb hby at_107) rfl rfl ?_
      have f97 := (f96.keep K95 (ninS ne_b3_b94 nin0))
      refine own_laload (pc' := 109) (v := (.long (9223372036854775807 : Int64))) X95 hx hZ e95 f97 ⟨by decide, by decide⟩ rfl (hb hby at_108) rfl ?_
      refine own_callV (pc' := 112) (W := 0) (y := (⟨"com/example/eventual_leader/eventualleader/election/RecoveryCounts", "set", "(IJ)V"⟩ : MethodName)) (z := (⟨"com/example/eventual_leader/eventualleader/election/RecoveryCounts", "set", "(IJ)V"⟩ : MethodName)) X95 hx hZ hown (own_w hw 13 rfl) (own_w hw 14 rfl) (notFace_of_selects (args := #[]) (mvT hZ (own_w hw 16 rfl))) (own_w hw 16 rfl) (own_w hw 15 rfl) (own_w hw 4 rfl) (own_w hw 17 rfl) (by decide) E95q (conS l Z a0 hw b94 (1 : Int32) (9223372036854775807 : Int64) _ n0 z95 c95 k95 [(.long (0 : Int64)), (.long (0 : Int64)), (.long (0 : Int64))] F95q V95 0 ⟨by decide, by decide⟩ rfl (Nat.le_of_ble_eq_true rfl) g_c95) e95 pd1 [(.int (1 : Int32)), (.long (9223372036854775807 : Int64))] [] rfl rfl rfl (Nat.le_of_eq rfl) (by decide) (by decide) (by rw [hml]; rfl) (hb hby at_109) (by decide) (by decide) rfl ?_
      intro v98 T98 L98 X98 q98
      obtain ⟨rfl, M98, K98, V98⟩ := q98
      obtain ⟨h98, e98⟩ : ∃ z, z = T98.heap := ⟨_, rfl⟩
      rw [← e98] at K98 V98
      have e98 := e98.symm
      have z98 : n0 ≤ h98.size := Nat.le_trans z95 K98.1
      have V98 : Arv Z h98 c95 k95 .long 3 [(.long (9223372036854775807 : Int64)), (.long (0 : Int64)), (.long (0 : Int64))] (.long 0) := V98
      have N98 := Fr.app N95 M98
      show own_WP _ _ _ _ _ _ _ (T98.setTop (mkF m 112 #[.val (.long p0), .second, .val (.long p1), .second, .val (.long p2), .second, .val (.int p3), .val (.int (1 : Int32)), .val (.int v2), .val (.ref b3), .val (.ref b94)] []))
      refine own_aload (pc' := 114) X98 hx (hb hby at_112) rfl rfl rfl ?_
      refine own_iconst (pc' := 115) X98 hx (2 : Int32) (hb hby at_114) rfl rfl ?_
      refine own_aload (pc' := 117) X98 hx (hb hby at_115) rfl rfl rfl ?_
      refine own_iconst (pc' := 118) X98 hx (1 : Int32) (hb hby at_117) rfl rfl ?_
      have f99 := (f97.keep K98 (ninS ne_b3_c95 nin0))
      refine own_laload (pc' := 119) (v := (.long p1)) X98 hx hZ e98 f99 ⟨by decide, by decide⟩ rfl (hb hby at_118) rfl ?_
      have f101 := (F95q.keep K98 (ninS ne_b94_c95 nin0))
      have f102 := (E95q.keep K98)
      refine own_callV (pc' := 122) (W := 0) (y := (⟨"com/example/eventual_leader/eventualleader/election/RecoveryCounts", "set", "(IJ)V"⟩ : MethodName)) (z := (⟨"com/example/eventual_leader/eventualleader/election/RecoveryCounts", "set", "(IJ)V"⟩ : MethodName)) X98 hx hZ hown (own_w hw 13 rfl) (own_w hw 14 rfl) (notFace_of_selects (args := #[]) (mvT hZ (own_w hw 16 rfl))) (own_w hw 16 rfl) (own_w hw 15 rfl) (own_w hw 4 rfl) (own_w hw 17 rfl) (by decide) f102 (conS l Z a0 hw b94 (2 : Int32) p1 _ n0 z98 c95 k95 [(.long (9223372036854775807 : Int64)), (.long (0 : Int64)), (.long (0 : Int64))] f101 V98 1 ⟨by decide, by decide⟩ rfl (Nat.le_of_ble_eq_true rfl) g_c95) e98 pd1 [(.int (2 : Int32)), (.long p1)] [] rfl rfl rfl (Nat.le_of_eq rfl) (by decide) (by decide) (by rw [hml]; rfl) (hb hby at_119) (by decide) (by decide) rfl ?_
      intro v100 T100 L100 X100 q100
      obtain ⟨rfl, M100, K100, V100⟩ := q100
      obtain ⟨h100, e100⟩ : ∃ z, z = T100.heap := ⟨_, rfl⟩
      rw [← e100] at K100 V100
      have e100 := e100.symm
      have z100 : n0 ≤ h100.size := Nat.le_trans z98 K100.1
      have V100 : Arv Z h100 c95 k95 .long 3 [(.long (9223372036854775807 : Int64)), (.long p1), (.long (0 : Int64))] (.long 0) := V100
      have N100 := Fr.app N98 M100
      show own_WP _ _ _ _ _ _ _ (T100.setTop (mkF m 122 #[.val (.long p0), .second, .val (.long p1), .second, .val (.long p2), .second, .val (.int p3), .val (.int (1 : Int32)), .val (.int v2), .val (.ref b3), .val (.ref b94)] []))
      refine own_aload (pc' := 124) X100 hx (hb hby at_122) rfl rfl rfl ?_
      refine own_iconst (pc' := 125) X100 hx (3 : Int32) (hb hby at_124) rfl rfl ?_
      refine own_aload (pc' := 127) X100 hx (hb hby at_125) rfl rfl rfl ?_
      refine own_iconst (pc' := 128) X100 hx (2 : Int32) (hb hby at_127) rfl rfl ?_
      have f103 := (f99.keep K100 (ninS ne_b3_c95 nin0))
      refine own_laload (pc' := 129) (v := (.long p2)) X100 hx hZ e100 f103 ⟨by decide, by decide⟩ rfl (hb hby at_128) rfl ?_
      have f105 := (f101.keep K100 (ninS ne_b94_c95 nin0))
      have f106 := (f102.keep K100)
      refine own_callV (pc' := 132) (W := 0) (y := (⟨"com/example/eventual_leader/eventualleader/election/RecoveryCounts", "set", "(IJ)V"⟩ : MethodName)) (z := (⟨"com/example/eventual_leader/eventualleader/election/RecoveryCounts", "set", "(IJ)V"⟩ : MethodName)) X100 hx hZ hown (own_w hw 13 rfl) (own_w hw 14 rfl) (notFace_of_selects (args := #[]) (mvT hZ (own_w hw 16 rfl))) (own_w hw 16 rfl) (own_w hw 15 rfl) (own_w hw 4 rfl) (own_w hw 17 rfl) (by decide) f106 (conS l Z a0 hw b94 (3 : Int32) p2 _ n0 z100 c95 k95 [(.long (9223372036854775807 : Int64)), (.long p1), (.long (0 : Int64))] f105 V100 2 ⟨by decide, by decide⟩ rfl (Nat.le_of_ble_eq_true rfl) g_c95) e100 pd1 [(.int (3 : Int32)), (.long p2)] [] rfl rfl rfl (Nat.le_of_eq rfl) (by decide) (by decide) (by rw [hml]; rfl) (hb hby at_129) (by decide) (by decide) rfl ?_
      intro v104 T104 L104 X104 q104
      obtain ⟨rfl, M104, K104, V104⟩ := q104
      obtain ⟨h104, e104⟩ : ∃ z, z = T104.heap := ⟨_, rfl⟩
      rw [← e104] at K104 V104
      have e104 := e104.symm
      have z104 : n0 ≤ h104.size := Nat.le_trans z100 K104.1
      have V104 : Arv Z h104 c95 k95 .long 3 [(.long (9223372036854775807 : Int64)), (.long p1), (.long p2)] (.long 0) := V104
      have N104 := Fr.app N100 M104
      show own_WP _ _ _ _ _ _ _ (T104.setTop (mkF m 132 #[.val (.long p0), .second, .val (.long p1), .second, .val (.long p2), .second, .val (.int p3), .val (.int (1 : Int32)), .val (.int v2), .val (.ref b3), .val (.ref b94)] []))
      refine own_aload (pc' := 134) X104 hx (hb hby at_132) rfl rfl rfl ?_
      refine own_iload (pc' := 136) X104 hx (hb hby at_134) rfl rfl ?_
      have f108 := (f105.keep K104 (ninS ne_b94_c95 nin0))
      have f109 := (f106.keep K104)
      refine own_callV (pc' := 139) (W := 0) (y := (⟨"com/example/eventual_leader/eventualleader/election/RecoveryCounts", "increment", "(I)V"⟩ : MethodName)) (z := (⟨"com/example/eventual_leader/eventualleader/election/RecoveryCounts", "increment", "(I)V"⟩ : MethodName)) X104 hx hZ hown (own_w hw 18 rfl) (own_w hw 19 rfl) (notFace_of_selects (args := #[]) (mvT hZ (own_w hw 21 rfl))) (own_w hw 21 rfl) (own_w hw 20 rfl) (own_w hw 4 rfl) (own_w hw 22 rfl) (by decide) f109 (conN l Z a0 hw b94 (1 : Int32) _ n0 z104 c95 k95 [(.long (9223372036854775807 : Int64)), (.long p1), (.long p2)] f108 V104 0 ⟨by decide, by decide⟩ rfl (Nat.le_of_ble_eq_true rfl) g_c95 (9223372036854775807 : Int64) rfl) e104 pd0 [(.int (1 : Int32))] [] rfl rfl rfl (Nat.le_of_eq rfl) (by decide) (by decide) (by rw [hml]; rfl) (hb hby at_136) (by decide) (by decide) rfl ?_
      intro v107 T107 L107 X107 q107
      obtain ⟨rfl, M107, K107, V107⟩ := q107
      obtain ⟨h107, e107⟩ : ∃ z, z = T107.heap := ⟨_, rfl⟩
      rw [← e107] at K107 V107
      have e107 := e107.symm
      have z107 : n0 ≤ h107.size := Nat.le_trans z104 K107.1
      have N107 := Fr.app N104 M107
      have hlt : ¬ (9223372036854775807 : Int64) < (9223372036854775807 : Int64) := by decide
      rw [if_neg hlt] at V107
      have V107 : Arv Z h107 c95 k95 .long 3 [(.long (9223372036854775807 : Int64)), (.long p1), (.long p2)] (.long 0) := V107
      show own_WP _ _ _ _ _ _ _ (T107.setTop (mkF m 139 #[.val (.long p0), .second, .val (.long p1), .second, .val (.long p2), .second, .val (.int p3), .val (.int (1 : Int32)), .val (.int v2), .val (.ref b3), .val (.ref b94)] []))
      refine own_aload (pc' := 141) X107 hx (hb hby at_139) rfl rfl rfl ?_
      refine own_iconst (pc' := 142) X107 hx (1 : Int32) (hb hby at_141) rfl rfl ?_
      have f111 := (f108.keep K107 (ninS ne_b94_c95 nin0))
      have f112 := (f109.keep K107)
      refine own_callV (pc' := 145) (W := 0) (y := (⟨"com/example/eventual_leader/eventualleader/election/RecoveryCounts", "of", "(I)J"⟩ : MethodName)) (z := (⟨"com/example/eventual_leader/eventualleader/election/RecoveryCounts", "of", "(I)J"⟩ : MethodName)) X107 hx hZ hown (own_w hw 24 rfl) (own_w hw 25 rfl) (notFace_of_selects (args := #[]) (mvT hZ (own_w hw 27 rfl))) (own_w hw 27 rfl) (own_w hw 26 rfl) (own_w hw 4 rfl) (own_w hw 28 rfl) (by decide) f112 (conO l Z a0 hw b94 (1 : Int32) _ c95 k95 [(.long (9223372036854775807 : Int64)), (.long p1), (.long p2)] f111 V107 0 ⟨by decide, by decide⟩ rfl (9223372036854775807 : Int64) rfl) e107 pd2 [(.int (1 : Int32))] [] rfl rfl rfl (Nat.le_of_eq rfl) (by decide) (by decide) (by rw [hml]; rfl) (hb hby at_142) (by decide) (by decide) rfl ?_
      intro v110 T110 L110 X110 q110
      obtain ⟨r110, rfl, hr110, rfl, e110⟩ := q110
      have N110 := Fr.app N107 (Fr.nil n0)
      show own_WP _ _ _ _ _ _ _ (T110.setTop (mkF m 145 #[.val (.long p0), .second, .val (.long p1), .second, .val (.long p2), .second, .val (.int p3), .val (.int (1 : Int32)), .val (.int v2), .val (.ref b3), .val (.ref b94)] [(.long r110)]))
      refine own_iconst (pc' := 146) X110 hx (1 : Int32) (hb hby at_145) rfl rfl ?_
      refine own_iload (pc' := 148) X110 hx (hb hby at_146) rfl rfl ?_
      refine own_aload (pc' := 150) X110 hx (hb hby at_148) rfl rfl rfl ?_
      refine own_iconst (pc' := 151) X110 hx (0 : Int32) (hb hby at_150) rfl rfl ?_
      have f113 := ((f103.keep K104 (ninS ne_b3_c95 nin0)).keep K107 (ninS ne_b3_c95 nin0))
      refine own_laload (pc' := 152) (v := (.long (9223372036854775807 : Int64))) X110 hx hZ e110 f113 ⟨by decide, by decide⟩ rfl (hb hby at_151) rfl ?_
      refine own_callS (pc' := 155) (W := 2) (y := (⟨"com/example/eventual_leader/eventualleader/election/RecoveryCountsIncrementPinLaw", "expect", "(IIJ)J"⟩ : MethodName)) X110 hx hZ hown (own_w hw 29 rfl) (own_w hw 30 rfl) (own_w hw 31 rfl) (own_w hw 32 rfl) (by decide) (conX l Z a0 hw (1 : Int32) (1 : Int32) (9223372036854775807 : Int64) _ ) e110 pd3 [(.int (1 : Int32)), (.int (1 : Int32)), (.long (9223372036854775807 : Int64))] [(.long r110)] rfl rfl rfl (Nat.le_of_eq rfl) (by decide) (by decide) (by rw [hml]; rfl) (hb hby at_152) (by decide) (by decide) rfl ?_
      intro v114 T114 L114 X114 q114
      obtain ⟨r114, rfl, hr114, rfl, e114⟩ := q114
      have N114 := Fr.app N110 (Fr.nil n0)
      show own_WP _ _ _ _ _ _ _ (T114.setTop (mkF m 155 #[.val (.long p0), .second, .val (.long p1), .second, .val (.long p2), .second, .val (.int p3), .val (.int (1 : Int32)), .val (.int v2), .val (.ref b3), .val (.ref b94)] [(.long r114), (.long r110)]))
      refine own_lcmp (pc' := 156) X114 hx (hb hby at_155) rfl ?_
      refine own_ifl_ne (pt := 203) (pf := 159) X114 hx (hb hby at_156) rfl (by decide) rfl (fun hc156 => absurd (by rw [hr110, hr114]; exact (own_exM hlt).symm) hc156) (fun hc156 => ?_)
      refine own_aload (pc' := 161) X114 hx (hb hby at_159) rfl rfl rfl ?_
      refine own_iconst (pc' := 162) X114 hx (2 : Int32) (hb hby at_161) rfl rfl ?_
      refine own_callV (pc' := 165) (W := 0) (y := (⟨"com/example/eventual_leader/eventualleader/election/RecoveryCounts", "of", "(I)J"⟩ : MethodName)) (z := (⟨"com/example/eventual_leader/eventualleader/election/RecoveryCounts", "of", "(I)J"⟩ : MethodName)) X114 hx hZ hown (own_w hw 24 rfl) (own_w hw 25 rfl) (notFace_of_selects (args := #[]) (mvT hZ (own_w hw 27 rfl))) (own_w hw 27 rfl) (own_w hw 26 rfl) (own_w hw 4 rfl) (own_w hw 28 rfl) (by decide) f112 (conO l Z a0 hw b94 (2 : Int32) _ c95 k95 [(.long (9223372036854775807 : Int64)), (.long p1), (.long p2)] f111 V107 1 ⟨by decide, by decide⟩ rfl p1 rfl) e114 pd2 [(.int (2 : Int32))] [] rfl rfl rfl (Nat.le_of_eq rfl) (by decide) (by decide) (by rw [hml]; rfl) (hb hby at_162) (by decide) (by decide) rfl ?_
      intro v115 T115 L115 X115 q115
      obtain ⟨r115, rfl, hr115, rfl, e115⟩ := q115
      have N115 := Fr.app N114 (Fr.nil n0)
      show own_WP _ _ _ _ _ _ _ (T115.setTop (mkF m 165 #[.val (.long p0), .second, .val (.long p1), .second, .val (.long p2), .second, .val (.int p3), .val (.int (1 : Int32)), .val (.int v2), .val (.ref b3), .val (.ref b94)] [(.long r115)]))
      refine own_iconst (pc' := 166) X115 hx (2 : Int32) (hb hby at_165) rfl rfl ?_
      refine own_iload (pc' := 168) X115 hx (hb hby at_166) rfl rfl ?_
      refine own_aload (pc' := 170) X115 hx (hb hby at_168) rfl rfl rfl ?_
      refine own_iconst (pc' := 171) X115 hx (1 : Int32) (hb hby at_170) rfl rfl ?_
      refine own_laload (pc' := 172) (v := (.long p1)) X115 hx hZ e115 f113 ⟨by decide, by decide⟩ rfl (hb hby at_171) rfl ?_
      refine own_callS (pc' := 175) (W := 2) (y := (⟨"com/example/eventual_leader/eventualleader/election/RecoveryCountsIncrementPinLaw", "expect", "(IIJ)J"⟩ : MethodName)) X115 hx hZ hown (own_w hw 29 rfl) (own_w hw 30 rfl) (own_w hw 31 rfl) (own_w hw 32 rfl) (by decide) (conX l Z a0 hw (2 : Int32) (1 : Int32) p1 _ ) e115 pd3 [(.int (2 : Int32)), (.int (1 : Int32)), (.long p1)] [(.long r115)] rfl rfl rfl (Nat.le_of_eq rfl) (by decide) (by decide) (by rw [hml]; rfl) (hb hby at_172) (by decide) (by decide) rfl ?_
      intro v116 T116 L116 X116 q116
      obtain ⟨r116, rfl, hr116, rfl, e116⟩ := q116
      have N116 := Fr.app N115 (Fr.nil n0)
      show own_WP _ _ _ _ _ _ _ (T116.setTop (mkF m 175 #[.val (.long p0), .second, .val (.long p1), .second, .val (.long p2), .second, .val (.int p3), .val (.int (1 : Int32)), .val (.int v2), .val (.ref b3), .val (.ref b94)] [(.long r116), (.long r115)]))
      refine own_lcmp (pc' := 176) X116 hx (hb hby at_175) rfl ?_
      refine own_ifl_ne (pt := 203) (pf := 179) X116 hx (hb hby at_176) rfl (by decide) rfl (fun hc176 => absurd (by rw [hr115, hr116]; exact (own_exN (by decide)).symm) hc176) (fun hc176 => ?_)
      refine own_aload (pc' := 181) X116 hx (hb hby at_179) rfl rfl rfl ?_
      refine own_iconst (pc' := 182) X116 hx (3 : Int32) (hb hby at_181) rfl rfl ?_
      refine own_callV (pc' := 185) (W := 0) (y := (⟨"com/example/eventual_leader/eventualleader/election/RecoveryCounts", "of", "(I)J"⟩ : MethodName)) (z := (⟨"com/example/eventual_leader/eventualleader/election/RecoveryCounts", "of", "(I)J"⟩ : MethodName)) X116 hx hZ hown (own_w hw 24 rfl) (own_w hw 25 rfl) (notFace_of_selects (args := #[]) (mvT hZ (own_w hw 27 rfl))) (own_w hw 27 rfl) (own_w hw 26 rfl) (own_w hw 4 rfl) (own_w hw 28 rfl) (by decide) f112 (conO l Z a0 hw b94 (3 : Int32) _ c95 k95 [(.long (9223372036854775807 : Int64)), (.long p1), (.long p2)] f111 V107 2 ⟨by decide, by decide⟩ rfl p2 rfl) e116 pd2 [(.int (3 : Int32))] [] rfl rfl rfl (Nat.le_of_eq rfl) (by decide) (by decide) (by rw [hml]; rfl) (hb hby at_182) (by decide) (by decide) rfl ?_
      intro v117 T117 L117 X117 q117
      obtain ⟨r117, rfl, hr117, rfl, e117⟩ := q117
      have N117 := Fr.app N116 (Fr.nil n0)
      show own_WP _ _ _ _ _ _ _ (T117.setTop (mkF m 185 #[.val (.long p0), .second, .val (.long p1), .second, .val (.long p2), .second, .val (.int p3), .val (.int (1 : Int32)), .val (.int v2), .val (.ref b3), .val (.ref b94)] [(.long r117)]))
      refine own_iconst (pc' := 186) X117 hx (3 : Int32) (hb hby at_185) rfl rfl ?_
      refine own_iload (pc' := 188) X117 hx (hb hby at_186) rfl rfl ?_
      refine own_aload (pc' := 190) X117 hx (hb hby at_188) rfl rfl rfl ?_
      refine own_iconst (pc' := 191) X117 hx (2 : Int32) (hb hby at_190) rfl rfl ?_
      refine own_laload (pc' := 192) (v := (.long p2)) X117 hx hZ e117 f113 ⟨by decide, by decide⟩ rfl (hb hby at_191) rfl ?_
      refine own_callS (pc' := 195) (W := 2) (y := (⟨"com/example/eventual_leader/eventualleader/election/RecoveryCountsIncrementPinLaw", "expect", "(IIJ)J"⟩ : MethodName)) X117 hx hZ hown (own_w hw 29 rfl) (own_w hw 30 rfl) (own_w hw 31 rfl) (own_w hw 32 rfl) (by decide) (conX l Z a0 hw (3 : Int32) (1 : Int32) p2 _ ) e117 pd3 [(.int (3 : Int32)), (.int (1 : Int32)), (.long p2)] [(.long r117)] rfl rfl rfl (Nat.le_of_eq rfl) (by decide) (by decide) (by rw [hml]; rfl) (hb hby at_192) (by decide) (by decide) rfl ?_
      intro v118 T118 L118 X118 q118
      obtain ⟨r118, rfl, hr118, rfl, e118⟩ := q118
      have N118 := Fr.app N117 (Fr.nil n0)
      show own_WP _ _ _ _ _ _ _ (T118.setTop (mkF m 195 #[.val (.long p0), .second, .val (.long p1), .second, .val (.long p2), .second, .val (.int p3), .val (.int (1 : Int32)), .val (.int v2), .val (.ref b3), .val (.ref b94)] [(.long r118), (.long r117)]))
      refine own_lcmp (pc' := 196) X118 hx (hb hby at_195) rfl ?_
      refine own_ifl_ne (pt := 203) (pf := 199) X118 hx (hb hby at_196) rfl (by decide) rfl (fun hc196 => absurd (by rw [hr117, hr118]; exact (own_exN (by decide)).symm) hc196) (fun hc196 => ?_)
      refine own_iconst (pc' := 200) X118 hx (1 : Int32) (hb hby at_199) rfl rfl ?_
      refine own_goto (pc' := 204) X118 hx (hb hby at_200) (by decide) rfl ?_
      refine own_retN X118 hx hlk (t := .boolean) (by decide) hret (hb hby at_204) (by decide) (by decide) ?_
      exact ⟨rfl, N118⟩
  · subst hid
    show own_WP _ _ _ _ _ _ _ (s₁.setTop (mkF m 11 #[.val (.long p0), .second, .val (.long p1), .second, .val (.long p2), .second, .val (.int p3), .val (.int (2 : Int32)), .unset, .unset, .unset] []))
    refine own_iload (pc' := 13) X0 hx (hb hby at_11) rfl rfl ?_
    refine own_bipush (pc' := 15) X0 hx (8 : Int32) (hb hby at_13) rfl rfl ?_
    refine own_iushr (pc' := 16) X0 hx (hb hby at_15) rfl ?_
    refine own_iconst (pc' := 17) X0 hx (3 : Int32) (hb hby at_16) rfl rfl ?_
    refine own_iand (pc' := 18) X0 hx (hb hby at_17) rfl ?_
    obtain ⟨v119, hv119⟩ : ∃ z : Int32, z = (((p3.toUInt32 >>> ((8 : Int32) &&& 31).toUInt32).toInt32) &&& (3 : Int32)) := ⟨_, rfl⟩
    refine own_istore (pc' := 20) (l' := #[.val (.long p0), .second, .val (.long p1), .second, .val (.long p2), .second, .val (.int p3), .val (.int (2 : Int32)), .val (.int v119), .unset, .unset]) X0 hx (hb hby at_18) hv119 rfl rfl ?_
    refine own_iconst (pc' := 21) X0 hx (3 : Int32) (hb hby at_20) rfl rfl ?_
    refine own_newP (pc' := 23) (cap := 3) X0 hx hZ (own_w hw 1 rfl) e0 (hb hby at_21) (by decide) (by decide) (by decide) (by decide) (by decide) rfl ?_
    intro T120 h120 k120 b120 g120 X120 e120 E120 A120
    have g_b120 : n0 ≤ b120 := Nat.le_trans Z0 (Nat.le_of_eq g120.symm)
    have z120 : n0 ≤ h120.size := Nat.le_trans Z0 E120.1
    have V120 : Arv Z h120 b120 k120 .long (3 : Int32) [(.long (0 : Int64)), (.long (0 : Int64)), (.long (0 : Int64))] (.long (0 : Int64)) := (Arv.new A120 (by decide)).pad (pad_rep [] (.long (0 : Int64)) 3)
    refine own_dup (pc' := 24) X120 hx (hb hby at_23) rfl rfl ?_
    refine own_iconst (pc' := 25) X120 hx (0 : Int32) (hb hby at_24) rfl rfl ?_
    refine own_lloadN (pc' := 26) X120 hx (hb hby at_25) rfl rfl ?_
    refine own_lastore (pc' := 27) X120 hx hZ e120 V120 ⟨by decide, by decide⟩ 0 rfl (Nat.le_of_ble_eq_true rfl) (hb hby at_26) rfl ?_
    intro T121 h121 X121 e121 W121 V121
    have z121 : n0 ≤ h121.size := Nat.le_trans z120 (Keep.of_wr W121).1
    have V121 : Arv Z h121 b120 k120 .long (3 : Int32) [(.long p0), (.long (0 : Int64)), (.long (0 : Int64))] (.long (0 : Int64)) := V121
    have N121 := Fr.snoc X121 N0 g_b120
    refine own_dup (pc' := 28) X121 hx (hb hby at_27) rfl rfl ?_
    refine own_iconst (pc' := 29) X121 hx (1 : Int32) (hb hby at_28) rfl rfl ?_
    refine own_lloadN (pc' := 30) X121 hx (hb hby at_29) rfl rfl ?_
    refine own_lastore (pc' := 31) X121 hx hZ e121 V121 ⟨by decide, by decide⟩ 1 rfl (Nat.le_of_ble_eq_true rfl) (hb hby at_30) rfl ?_
    intro T122 h122 X122 e122 W122 V122
    have z122 : n0 ≤ h122.size := Nat.le_trans z121 (Keep.of_wr W122).1
    have V122 : Arv Z h122 b120 k120 .long (3 : Int32) [(.long p0), (.long p1), (.long (0 : Int64))] (.long (0 : Int64)) := V122
    have N122 := Fr.snoc X122 N121 g_b120
    refine own_dup (pc' := 32) X122 hx (hb hby at_31) rfl rfl ?_
    refine own_iconst (pc' := 33) X122 hx (2 : Int32) (hb hby at_32) rfl rfl ?_
    refine own_lload (pc' := 35) X122 hx (hb hby at_33) rfl rfl ?_
    refine own_lastore (pc' := 36) X122 hx hZ e122 V122 ⟨by decide, by decide⟩ 2 rfl (Nat.le_of_ble_eq_true rfl) (hb hby at_35) rfl ?_
    intro T123 h123 X123 e123 W123 V123
    have z123 : n0 ≤ h123.size := Nat.le_trans z122 (Keep.of_wr W123).1
    have V123 : Arv Z h123 b120 k120 .long (3 : Int32) [(.long p0), (.long p1), (.long p2)] (.long (0 : Int64)) := V123
    have N123 := Fr.snoc X123 N122 g_b120
    refine own_astore (pc' := 38) (l' := #[.val (.long p0), .second, .val (.long p1), .second, .val (.long p2), .second, .val (.int p3), .val (.int (2 : Int32)), .val (.int v119), .val (.ref b120), .unset]) X123 hx (hb hby at_36) rfl rfl rfl ?_
    refine own_iload (pc' := 40) X123 hx (hb hby at_38) rfl rfl ?_
    refine own_iconst (pc' := 41) X123 hx (1 : Int32) (hb hby at_40) rfl rfl ?_
    refine own_icmp_ne (pt := 57) (pf := 44) X123 hx (hb hby at_41) rfl (by decide) rfl (fun hc41 => ?_) (fun hc41 => ?_)
    · skip
      refine own_iload (pc' := 59) X123 hx (hb hby at_57) rfl rfl ?_
      refine own_iconst (pc' := 60) X123 hx (2 : Int32) (hb hby at_59) rfl rfl ?_
      refine own_icmp_ne (pt := 76) (pf := 63) X123 hx (hb hby at_60) rfl (by decide) rfl (fun hc60 => ?_) (fun hc60 => ?_)
      · skip
        refine own_iload (pc' := 78) X123 hx (hb hby at_76) rfl rfl ?_
        refine own_iconst (pc' := 79) X123 hx (3 : Int32) (hb hby at_78) rfl rfl ?_
        refine own_icmp_ne (pt := 92) (pf := 82) X123 hx (hb hby at_79) rfl (by decide) rfl (fun hc79 => ?_) (fun hc79 => ?_)
        · skip
          refine own_new (pc' := 95) X123 hx hZ hown (own_w hw 2 rfl) (own_w hw 3 rfl) (own_w hw 4 rfl) e123 (hb hby at_92) (by decide) (by decide) rfl ?_
          intro T124 h124 b124 g124 X124 e124 E124 A124 D124
          have ne_b120_b124 : b120 ≠ b124 := Nat.ne_of_lt (Nat.lt_of_lt_of_le V123.lt (Nat.le_of_eq g124.symm))
          have ne_b124_b120 := ne_b120_b124.symm
          have g_b124 : n0 ≤ b124 := Nat.le_trans z123 (Nat.le_of_eq g124.symm)
          have z124 : n0 ≤ h124.size := Nat.le_trans z123 E124.1
          have F124_counts : Fld Z h124 b124 "com/example/eventual_leader/eventualleader/election/RecoveryCounts" "counts" "[J" .null := D124 (Or.inr (own_w hw 12 rfl)) (ty := (.array .long)) (by decide +kernel)
          refine own_dup (pc' := 96) X124 hx (hb hby at_95) rfl rfl ?_
          refine own_iconst (pc' := 97) X124 hx (3 : Int32) (hb hby at_96) rfl rfl ?_
          refine own_callN (pc' := 100) (W := 1) (y := (⟨"com/example/eventual_leader/eventualleader/election/RecoveryCounts", "<init>", "(I)V"⟩ : MethodName)) X124 hx hZ rfl hown (own_w hw 5 rfl) (own_w hw 6 rfl) (own_w hw 4 rfl) (own_w hw 7 rfl) (by decide) (conI l Z a0 hw b124 _ n0 z124 A124 F124_counts g_b124) e124 pd0 b124 [(.int (3 : Int32))] [(.ref b124)] rfl rfl rfl (Nat.le_of_eq rfl) (by decide) (by decide) (by rw [hml]; rfl) (hb hby at_97) (by decide) (by decide) rfl ?_
          intro v125 T125 L125 X125 q125
          obtain ⟨c125, k125, rfl, M125, K125, E125q, F125q, V125, g_c125, s125⟩ := q125
          have f126 := (V123.ext E124)
          have ne_b120_c125 : b120 ≠ c125 := Nat.ne_of_lt (Nat.lt_of_lt_of_le f126.lt s125)
          have ne_c125_b120 := ne_b120_c125.symm
          have ne_b124_c125 : b124 ≠ c125 := Nat.ne_of_lt (Nat.lt_of_lt_of_le A124.lt s125)
          have ne_c125_b124 := ne_b124_c125.symm
          obtain ⟨h125, e125⟩ : ∃ z, z = T125.heap := ⟨_, rfl⟩
          rw [← e125] at K125 E125q F125q V125
          have e125 := e125.symm
          have z125 : n0 ≤ h125.size := Nat.le_trans z124 K125.1
          have N125 := Fr.app N123 M125
          show own_WP _ _ _ _ _ _ _ (T125.setTop (mkF m 100 #[.val (.long p0), .second, .val (.long p1), .second, .val (.long p2), .second, .val (.int p3), .val (.int (2 : Int32)), .val (.int v119), .val (.ref b120), .unset] [(.ref b124)]))
          refine own_astore (pc' := 102) (l' := #[.val (.long p0), .second, .val (.long p1), .second, .val (.long p2), .second, .val (.int p3), .val (.int (2 : Int32)), .val (.int v119), .val (.ref b120), .val (.ref b124)]) X125 hx (hb hby at_100) rfl rfl rfl ?_
          refine own_aload (pc' := 104) X125 hx (hb hby at_102) rfl rfl rfl ?_
          refine own_iconst (pc' := 105) X125 hx (1 : Int32) (hb hby at_104) rfl rfl ?_
          refine own_aload (pc' := 107) X125 hx (hb hby at_105) rfl rfl rfl ?_
          refine own_iconst (pc' := 108) X125 hx (0 : Int32) (hb hby at_107) rfl rfl ?_
          have f127 := (f126.keep K125 (ninS ne_b120_b124 nin0))
          refine own_laload (pc' := 109) (v := (.long p0)) X125 hx hZ e125 f127 ⟨by decide, by decide⟩ rfl (hb hby at_108) rfl ?_
          refine own_callV (pc' := 112) (W := 0) (y := (⟨"com/example/eventual_leader/eventualleader/election/RecoveryCounts", "set", "(IJ)V"⟩ : MethodName)) (z := (⟨"com/example/eventual_leader/eventualleader/election/RecoveryCounts", "set", "(IJ)V"⟩ : MethodName)) X125 hx hZ hown (own_w hw 13 rfl) (own_w hw 14 rfl) (notFace_of_selects (args := #[]) (mvT hZ (own_w hw 16 rfl))) (own_w hw 16 rfl) (own_w hw 15 rfl) (own_w hw 4 rfl) (own_w hw 17 rfl) (by decide) E125q (conS l Z a0 hw b124 (1 : Int32) p0 _ n0 z125 c125 k125 [(.long (0 : Int64)), (.long (0 : Int64)), (.long (0 : Int64))] F125q V125 0 ⟨by decide, by decide⟩ rfl (Nat.le_of_ble_eq_true rfl) g_c125) e125 pd1 [(.int (1 : Int32)), (.long p0)] [] rfl rfl rfl (Nat.le_of_eq rfl) (by decide) (by decide) (by rw [hml]; rfl) (hb hby at_109) (by decide) (by decide) rfl ?_
          intro v128 T128 L128 X128 q128
          obtain ⟨rfl, M128, K128, V128⟩ := q128
          obtain ⟨h128, e128⟩ : ∃ z, z = T128.heap := ⟨_, rfl⟩
          rw [← e128] at K128 V128
          have e128 := e128.symm
          have z128 : n0 ≤ h128.size := Nat.le_trans z125 K128.1
          have V128 : Arv Z h128 c125 k125 .long 3 [(.long p0), (.long (0 : Int64)), (.long (0 : Int64))] (.long 0) := V128
          have N128 := Fr.app N125 M128
          show own_WP _ _ _ _ _ _ _ (T128.setTop (mkF m 112 #[.val (.long p0), .second, .val (.long p1), .second, .val (.long p2), .second, .val (.int p3), .val (.int (2 : Int32)), .val (.int v119), .val (.ref b120), .val (.ref b124)] []))
          refine own_aload (pc' := 114) X128 hx (hb hby at_112) rfl rfl rfl ?_
          refine own_iconst (pc' := 115) X128 hx (2 : Int32) (hb hby at_114) rfl rfl ?_
          refine own_aload (pc' := 117) X128 hx (hb hby at_115) rfl rfl rfl ?_
          refine own_iconst (pc' := 118) X128 hx (1 : Int32) (hb hby at_117) rfl rfl ?_
          have f129 := (f127.keep K128 (ninS ne_b120_c125 nin0))
          refine own_laload (pc' := 119) (v := (.long p1)) X128 hx hZ e128 f129 ⟨by decide, by decide⟩ rfl (hb hby at_118) rfl ?_
          have f131 := (F125q.keep K128 (ninS ne_b124_c125 nin0))
          have f132 := (E125q.keep K128)
          refine own_callV (pc' := 122) (W := 0) (y := (⟨"com/example/eventual_leader/eventualleader/election/RecoveryCounts", "set", "(IJ)V"⟩ : MethodName)) (z := (⟨"com/example/eventual_leader/eventualleader/election/RecoveryCounts", "set", "(IJ)V"⟩ : MethodName)) X128 hx hZ hown (own_w hw 13 rfl) (own_w hw 14 rfl) (notFace_of_selects (args := #[]) (mvT hZ (own_w hw 16 rfl))) (own_w hw 16 rfl) (own_w hw 15 rfl) (own_w hw 4 rfl) (own_w hw 17 rfl) (by decide) f132 (conS l Z a0 hw b124 (2 : Int32) p1 _ n0 z128 c125 k125 [(.long p0), (.long (0 : Int64)), (.long (0 : Int64))] f131 V128 1 ⟨by decide, by decide⟩ rfl (Nat.le_of_ble_eq_true rfl) g_c125) e128 pd1 [(.int (2 : Int32)), (.long p1)] [] rfl rfl rfl (Nat.le_of_eq rfl) (by decide) (by decide) (by rw [hml]; rfl) (hb hby at_119) (by decide) (by decide) rfl ?_
          intro v130 T130 L130 X130 q130
          obtain ⟨rfl, M130, K130, V130⟩ := q130
          obtain ⟨h130, e130⟩ : ∃ z, z = T130.heap := ⟨_, rfl⟩
          rw [← e130] at K130 V130
          have e130 := e130.symm
          have z130 : n0 ≤ h130.size := Nat.le_trans z128 K130.1
          have V130 : Arv Z h130 c125 k125 .long 3 [(.long p0), (.long p1), (.long (0 : Int64))] (.long 0) := V130
          have N130 := Fr.app N128 M130
          show own_WP _ _ _ _ _ _ _ (T130.setTop (mkF m 122 #[.val (.long p0), .second, .val (.long p1), .second, .val (.long p2), .second, .val (.int p3), .val (.int (2 : Int32)), .val (.int v119), .val (.ref b120), .val (.ref b124)] []))
          refine own_aload (pc' := 124) X130 hx (hb hby at_122) rfl rfl rfl ?_
          refine own_iconst (pc' := 125) X130 hx (3 : Int32) (hb hby at_124) rfl rfl ?_
          refine own_aload (pc' := 127) X130 hx (hb hby at_125) rfl rfl rfl ?_
          refine own_iconst (pc' := 128) X130 hx (2 : Int32) (hb hby at_127) rfl rfl ?_
          have f133 := (f129.keep K130 (ninS ne_b120_c125 nin0))
          refine own_laload (pc' := 129) (v := (.long p2)) X130 hx hZ e130 f133 ⟨by decide, by decide⟩ rfl (hb hby at_128) rfl ?_
          have f135 := (f131.keep K130 (ninS ne_b124_c125 nin0))
          have f136 := (f132.keep K130)
          refine own_callV (pc' := 132) (W := 0) (y := (⟨"com/example/eventual_leader/eventualleader/election/RecoveryCounts", "set", "(IJ)V"⟩ : MethodName)) (z := (⟨"com/example/eventual_leader/eventualleader/election/RecoveryCounts", "set", "(IJ)V"⟩ : MethodName)) X130 hx hZ hown (own_w hw 13 rfl) (own_w hw 14 rfl) (notFace_of_selects (args := #[]) (mvT hZ (own_w hw 16 rfl))) (own_w hw 16 rfl) (own_w hw 15 rfl) (own_w hw 4 rfl) (own_w hw 17 rfl) (by decide) f136 (conS l Z a0 hw b124 (3 : Int32) p2 _ n0 z130 c125 k125 [(.long p0), (.long p1), (.long (0 : Int64))] f135 V130 2 ⟨by decide, by decide⟩ rfl (Nat.le_of_ble_eq_true rfl) g_c125) e130 pd1 [(.int (3 : Int32)), (.long p2)] [] rfl rfl rfl (Nat.le_of_eq rfl) (by decide) (by decide) (by rw [hml]; rfl) (hb hby at_129) (by decide) (by decide) rfl ?_
          intro v134 T134 L134 X134 q134
          obtain ⟨rfl, M134, K134, V134⟩ := q134
          obtain ⟨h134, e134⟩ : ∃ z, z = T134.heap := ⟨_, rfl⟩
          rw [← e134] at K134 V134
          have e134 := e134.symm
          have z134 : n0 ≤ h134.size := Nat.le_trans z130 K134.1
          have V134 : Arv Z h134 c125 k125 .long 3 [(.long p0), (.long p1), (.long p2)] (.long 0) := V134
          have N134 := Fr.app N130 M134
          show own_WP _ _ _ _ _ _ _ (T134.setTop (mkF m 132 #[.val (.long p0), .second, .val (.long p1), .second, .val (.long p2), .second, .val (.int p3), .val (.int (2 : Int32)), .val (.int v119), .val (.ref b120), .val (.ref b124)] []))
          refine own_aload (pc' := 134) X134 hx (hb hby at_132) rfl rfl rfl ?_
          refine own_iload (pc' := 136) X134 hx (hb hby at_134) rfl rfl ?_
          have f138 := (f135.keep K134 (ninS ne_b124_c125 nin0))
          have f139 := (f136.keep K134)
          refine own_callV (pc' := 139) (W := 0) (y := (⟨"com/example/eventual_leader/eventualleader/election/RecoveryCounts", "increment", "(I)V"⟩ : MethodName)) (z := (⟨"com/example/eventual_leader/eventualleader/election/RecoveryCounts", "increment", "(I)V"⟩ : MethodName)) X134 hx hZ hown (own_w hw 18 rfl) (own_w hw 19 rfl) (notFace_of_selects (args := #[]) (mvT hZ (own_w hw 21 rfl))) (own_w hw 21 rfl) (own_w hw 20 rfl) (own_w hw 4 rfl) (own_w hw 22 rfl) (by decide) f139 (conN l Z a0 hw b124 (2 : Int32) _ n0 z134 c125 k125 [(.long p0), (.long p1), (.long p2)] f138 V134 1 ⟨by decide, by decide⟩ rfl (Nat.le_of_ble_eq_true rfl) g_c125 p1 rfl) e134 pd0 [(.int (2 : Int32))] [] rfl rfl rfl (Nat.le_of_eq rfl) (by decide) (by decide) (by rw [hml]; rfl) (hb hby at_136) (by decide) (by decide) rfl ?_
          intro v137 T137 L137 X137 q137
          obtain ⟨rfl, M137, K137, V137⟩ := q137
          obtain ⟨h137, e137⟩ : ∃ z, z = T137.heap := ⟨_, rfl⟩
          rw [← e137] at K137 V137
          have e137 := e137.symm
          have z137 : n0 ≤ h137.size := Nat.le_trans z134 K137.1
          have N137 := Fr.app N134 M137
          show own_WP _ _ _ _ _ _ _ (T137.setTop (mkF m 139 #[.val (.long p0), .second, .val (.long p1), .second, .val (.long p2), .second, .val (.int p3), .val (.int (2 : Int32)), .val (.int v119), .val (.ref b120), .val (.ref b124)] []))
          by_cases hlt : p1 < (9223372036854775807 : Int64)
          · rw [if_pos hlt] at V137
            have V137 : Arv Z h137 c125 k125 .long 3 [(.long p0), (.long (p1 + 1)), (.long p2)] (.long 0) := V137
            refine own_aload (pc' := 141) X137 hx (hb hby at_139) rfl rfl rfl ?_
            refine own_iconst (pc' := 142) X137 hx (1 : Int32) (hb hby at_141) rfl rfl ?_
            have f141 := (f138.keep K137 (ninS ne_b124_c125 nin0))
            have f142 := (f139.keep K137)
            refine own_callV (pc' := 145) (W := 0) (y := (⟨"com/example/eventual_leader/eventualleader/election/RecoveryCounts", "of", "(I)J"⟩ : MethodName)) (z := (⟨"com/example/eventual_leader/eventualleader/election/RecoveryCounts", "of", "(I)J"⟩ : MethodName)) X137 hx hZ hown (own_w hw 24 rfl) (own_w hw 25 rfl) (notFace_of_selects (args := #[]) (mvT hZ (own_w hw 27 rfl))) (own_w hw 27 rfl) (own_w hw 26 rfl) (own_w hw 4 rfl) (own_w hw 28 rfl) (by decide) f142 (conO l Z a0 hw b124 (1 : Int32) _ c125 k125 [(.long p0), (.long (p1 + 1)), (.long p2)] f141 V137 0 ⟨by decide, by decide⟩ rfl p0 rfl) e137 pd2 [(.int (1 : Int32))] [] rfl rfl rfl (Nat.le_of_eq rfl) (by decide) (by decide) (by rw [hml]; rfl) (hb hby at_142) (by decide) (by decide) rfl ?_
            intro v140 T140 L140 X140 q140
            obtain ⟨r140, rfl, hr140, rfl, e140⟩ := q140
            have N140 := Fr.app N137 (Fr.nil n0)
            show own_WP _ _ _ _ _ _ _ (T140.setTop (mkF m 145 #[.val (.long p0), .second, .val (.long p1), .second, .val (.long p2), .second, .val (.int p3), .val (.int (2 : Int32)), .val (.int v119), .val (.ref b120), .val (.ref b124)] [(.long r140)]))
            refine own_iconst (pc' := 146) X140 hx (1 : Int32) (hb hby at_145) rfl rfl ?_
            refine own_iload (pc' := 148) X140 hx (hb hby at_146) rfl rfl ?_
            refine own_aload (pc' := 150) X140 hx (hb hby at_148) rfl rfl rfl ?_
            refine own_iconst (pc' := 151) X140 hx (0 : Int32) (hb hby at_150) rfl rfl ?_
            have f143 := ((f133.keep K134 (ninS ne_b120_c125 nin0)).keep K137 (ninS ne_b120_c125 nin0))
            refine own_laload (pc' := 152) (v := (.long p0)) X140 hx hZ e140 f143 ⟨by decide, by decide⟩ rfl (hb hby at_151) rfl ?_
            refine own_callS (pc' := 155) (W := 2) (y := (⟨"com/example/eventual_leader/eventualleader/election/RecoveryCountsIncrementPinLaw", "expect", "(IIJ)J"⟩ : MethodName)) X140 hx hZ hown (own_w hw 29 rfl) (own_w hw 30 rfl) (own_w hw 31 rfl) (own_w hw 32 rfl) (by decide) (conX l Z a0 hw (1 : Int32) (2 : Int32) p0 _ ) e140 pd3 [(.int (1 : Int32)), (.int (2 : Int32)), (.long p0)] [(.long r140)] rfl rfl rfl (Nat.le_of_eq rfl) (by decide) (by decide) (by rw [hml]; rfl) (hb hby at_152) (by decide) (by decide) rfl ?_
            intro v144 T144 L144 X144 q144
            obtain ⟨r144, rfl, hr144, rfl, e144⟩ := q144
            have N144 := Fr.app N140 (Fr.nil n0)
            show own_WP _ _ _ _ _ _ _ (T144.setTop (mkF m 155 #[.val (.long p0), .second, .val (.long p1), .second, .val (.long p2), .second, .val (.int p3), .val (.int (2 : Int32)), .val (.int v119), .val (.ref b120), .val (.ref b124)] [(.long r144), (.long r140)]))
            refine own_lcmp (pc' := 156) X144 hx (hb hby at_155) rfl ?_
            refine own_ifl_ne (pt := 203) (pf := 159) X144 hx (hb hby at_156) rfl (by decide) rfl (fun hc156 => absurd (by rw [hr140, hr144]; exact (own_exN (by decide)).symm) hc156) (fun hc156 => ?_)
            refine own_aload (pc' := 161) X144 hx (hb hby at_159) rfl rfl rfl ?_
            refine own_iconst (pc' := 162) X144 hx (2 : Int32) (hb hby at_161) rfl rfl ?_
            refine own_callV (pc' := 165) (W := 0) (y := (⟨"com/example/eventual_leader/eventualleader/election/RecoveryCounts", "of", "(I)J"⟩ : MethodName)) (z := (⟨"com/example/eventual_leader/eventualleader/election/RecoveryCounts", "of", "(I)J"⟩ : MethodName)) X144 hx hZ hown (own_w hw 24 rfl) (own_w hw 25 rfl) (notFace_of_selects (args := #[]) (mvT hZ (own_w hw 27 rfl))) (own_w hw 27 rfl) (own_w hw 26 rfl) (own_w hw 4 rfl) (own_w hw 28 rfl) (by decide) f142 (conO l Z a0 hw b124 (2 : Int32) _ c125 k125 [(.long p0), (.long (p1 + 1)), (.long p2)] f141 V137 1 ⟨by decide, by decide⟩ rfl (p1 + 1) rfl) e144 pd2 [(.int (2 : Int32))] [] rfl rfl rfl (Nat.le_of_eq rfl) (by decide) (by decide) (by rw [hml]; rfl) (hb hby at_162) (by decide) (by decide) rfl ?_
            intro v145 T145 L145 X145 q145
            obtain ⟨r145, rfl, hr145, rfl, e145⟩ := q145
            have N145 := Fr.app N144 (Fr.nil n0)
            show own_WP _ _ _ _ _ _ _ (T145.setTop (mkF m 165 #[.val (.long p0), .second, .val (.long p1), .second, .val (.long p2), .second, .val (.int p3), .val (.int (2 : Int32)), .val (.int v119), .val (.ref b120), .val (.ref b124)] [(.long r145)]))
            refine own_iconst (pc' := 166) X145 hx (2 : Int32) (hb hby at_165) rfl rfl ?_
            refine own_iload (pc' := 168) X145 hx (hb hby at_166) rfl rfl ?_
            refine own_aload (pc' := 170) X145 hx (hb hby at_168) rfl rfl rfl ?_
            refine own_iconst (pc' := 171) X145 hx (1 : Int32) (hb hby at_170) rfl rfl ?_
            refine own_laload (pc' := 172) (v := (.long p1)) X145 hx hZ e145 f143 ⟨by decide, by decide⟩ rfl (hb hby at_171) rfl ?_
            refine own_callS (pc' := 175) (W := 2) (y := (⟨"com/example/eventual_leader/eventualleader/election/RecoveryCountsIncrementPinLaw", "expect", "(IIJ)J"⟩ : MethodName)) X145 hx hZ hown (own_w hw 29 rfl) (own_w hw 30 rfl) (own_w hw 31 rfl) (own_w hw 32 rfl) (by decide) (conX l Z a0 hw (2 : Int32) (2 : Int32) p1 _ ) e145 pd3 [(.int (2 : Int32)), (.int (2 : Int32)), (.long p1)] [(.long r145)] rfl rfl rfl (Nat.le_of_eq rfl) (by decide) (by decide) (by rw [hml]; rfl) (hb hby at_172) (by decide) (by decide) rfl ?_
            intro v146 T146 L146 X146 q146
            obtain ⟨r146, rfl, hr146, rfl, e146⟩ := q146
            have N146 := Fr.app N145 (Fr.nil n0)
            show own_WP _ _ _ _ _ _ _ (T146.setTop (mkF m 175 #[.val (.long p0), .second, .val (.long p1), .second, .val (.long p2), .second, .val (.int p3), .val (.int (2 : Int32)), .val (.int v119), .val (.ref b120), .val (.ref b124)] [(.long r146), (.long r145)]))
            refine own_lcmp (pc' := 176) X146 hx (hb hby at_175) rfl ?_
            refine own_ifl_ne (pt := 203) (pf := 179) X146 hx (hb hby at_176) rfl (by decide) rfl (fun hc176 => absurd (by rw [hr145, hr146]; exact (own_exY hlt).symm) hc176) (fun hc176 => ?_)
            refine own_aload (pc' := 181) X146 hx (hb hby at_179) rfl rfl rfl ?_
            refine own_iconst (pc' := 182) X146 hx (3 : Int32) (hb hby at_181) rfl rfl ?_
            refine own_callV (pc' := 185) (W := 0) (y := (⟨"com/example/eventual_leader/eventualleader/election/RecoveryCounts", "of", "(I)J"⟩ : MethodName)) (z := (⟨"com/example/eventual_leader/eventualleader/election/RecoveryCounts", "of", "(I)J"⟩ : MethodName)) X146 hx hZ hown (own_w hw 24 rfl) (own_w hw 25 rfl) (notFace_of_selects (args := #[]) (mvT hZ (own_w hw 27 rfl))) (own_w hw 27 rfl) (own_w hw 26 rfl) (own_w hw 4 rfl) (own_w hw 28 rfl) (by decide) f142 (conO l Z a0 hw b124 (3 : Int32) _ c125 k125 [(.long p0), (.long (p1 + 1)), (.long p2)] f141 V137 2 ⟨by decide, by decide⟩ rfl p2 rfl) e146 pd2 [(.int (3 : Int32))] [] rfl rfl rfl (Nat.le_of_eq rfl) (by decide) (by decide) (by rw [hml]; rfl) (hb hby at_182) (by decide) (by decide) rfl ?_
            intro v147 T147 L147 X147 q147
            obtain ⟨r147, rfl, hr147, rfl, e147⟩ := q147
            have N147 := Fr.app N146 (Fr.nil n0)
            show own_WP _ _ _ _ _ _ _ (T147.setTop (mkF m 185 #[.val (.long p0), .second, .val (.long p1), .second, .val (.long p2), .second, .val (.int p3), .val (.int (2 : Int32)), .val (.int v119), .val (.ref b120), .val (.ref b124)] [(.long r147)]))
            refine own_iconst (pc' := 186) X147 hx (3 : Int32) (hb hby at_185) rfl rfl ?_
            refine own_iload (pc' := 188) X147 hx (hb hby at_186) rfl rfl ?_
            refine own_aload (pc' := 190) X147 hx (hb hby at_188) rfl rfl rfl ?_
            refine own_iconst (pc' := 191) X147 hx (2 : Int32) (hb hby at_190) rfl rfl ?_
            refine own_laload (pc' := 192) (v := (.long p2)) X147 hx hZ e147 f143 ⟨by decide, by decide⟩ rfl (hb hby at_191) rfl ?_
            refine own_callS (pc' := 195) (W := 2) (y := (⟨"com/example/eventual_leader/eventualleader/election/RecoveryCountsIncrementPinLaw", "expect", "(IIJ)J"⟩ : MethodName)) X147 hx hZ hown (own_w hw 29 rfl) (own_w hw 30 rfl) (own_w hw 31 rfl) (own_w hw 32 rfl) (by decide) (conX l Z a0 hw (3 : Int32) (2 : Int32) p2 _ ) e147 pd3 [(.int (3 : Int32)), (.int (2 : Int32)), (.long p2)] [(.long r147)] rfl rfl rfl (Nat.le_of_eq rfl) (by decide) (by decide) (by rw [hml]; rfl) (hb hby at_192) (by decide) (by decide) rfl ?_
            intro v148 T148 L148 X148 q148
            obtain ⟨r148, rfl, hr148, rfl, e148⟩ := q148
            have N148 := Fr.app N147 (Fr.nil n0)
            show own_WP _ _ _ _ _ _ _ (T148.setTop (mkF m 195 #[.val (.long p0), .second, .val (.long p1), .second, .val (.long p2), .second, .val (.int p3), .val (.int (2 : Int32)), .val (.int v119), .val (.ref b120), .val (.ref b124)] [(.long r148), (.long r147)]))
            refine own_lcmp (pc' := 196) X148 hx (hb hby at_195) rfl ?_
            refine own_ifl_ne (pt := 203) (pf := 199) X148 hx (hb hby at_196) rfl (by decide) rfl (fun hc196 => absurd (by rw [hr147, hr148]; exact (own_exN (by decide)).symm) hc196) (fun hc196 => ?_)
            refine own_iconst (pc' := 200) X148 hx (1 : Int32) (hb hby at_199) rfl rfl ?_
            refine own_goto (pc' := 204) X148 hx (hb hby at_200) (by decide) rfl ?_
            refine own_retN X148 hx hlk (t := .boolean) (by decide) hret (hb hby at_204) (by decide) (by decide) ?_
            exact ⟨rfl, N148⟩
          · rw [if_neg hlt] at V137
            have V137 : Arv Z h137 c125 k125 .long 3 [(.long p0), (.long p1), (.long p2)] (.long 0) := V137
            refine own_aload (pc' := 141) X137 hx (hb hby at_139) rfl rfl rfl ?_
            refine own_iconst (pc' := 142) X137 hx (1 : Int32) (hb hby at_141) rfl rfl ?_
            have f150 := (f138.keep K137 (ninS ne_b124_c125 nin0))
            have f151 := (f139.keep K137)
            refine own_callV (pc' := 145) (W := 0) (y := (⟨"com/example/eventual_leader/eventualleader/election/RecoveryCounts", "of", "(I)J"⟩ : MethodName)) (z := (⟨"com/example/eventual_leader/eventualleader/election/RecoveryCounts", "of", "(I)J"⟩ : MethodName)) X137 hx hZ hown (own_w hw 24 rfl) (own_w hw 25 rfl) (notFace_of_selects (args := #[]) (mvT hZ (own_w hw 27 rfl))) (own_w hw 27 rfl) (own_w hw 26 rfl) (own_w hw 4 rfl) (own_w hw 28 rfl) (by decide) f151 (conO l Z a0 hw b124 (1 : Int32) _ c125 k125 [(.long p0), (.long p1), (.long p2)] f150 V137 0 ⟨by decide, by decide⟩ rfl p0 rfl) e137 pd2 [(.int (1 : Int32))] [] rfl rfl rfl (Nat.le_of_eq rfl) (by decide) (by decide) (by rw [hml]; rfl) (hb hby at_142) (by decide) (by decide) rfl ?_
            intro v149 T149 L149 X149 q149
            obtain ⟨r149, rfl, hr149, rfl, e149⟩ := q149
            have N149 := Fr.app N137 (Fr.nil n0)
            show own_WP _ _ _ _ _ _ _ (T149.setTop (mkF m 145 #[.val (.long p0), .second, .val (.long p1), .second, .val (.long p2), .second, .val (.int p3), .val (.int (2 : Int32)), .val (.int v119), .val (.ref b120), .val (.ref b124)] [(.long r149)]))
            refine own_iconst (pc' := 146) X149 hx (1 : Int32) (hb hby at_145) rfl rfl ?_
            refine own_iload (pc' := 148) X149 hx (hb hby at_146) rfl rfl ?_
            refine own_aload (pc' := 150) X149 hx (hb hby at_148) rfl rfl rfl ?_
            refine own_iconst (pc' := 151) X149 hx (0 : Int32) (hb hby at_150) rfl rfl ?_
            have f152 := ((f133.keep K134 (ninS ne_b120_c125 nin0)).keep K137 (ninS ne_b120_c125 nin0))
            refine own_laload (pc' := 152) (v := (.long p0)) X149 hx hZ e149 f152 ⟨by decide, by decide⟩ rfl (hb hby at_151) rfl ?_
            refine own_callS (pc' := 155) (W := 2) (y := (⟨"com/example/eventual_leader/eventualleader/election/RecoveryCountsIncrementPinLaw", "expect", "(IIJ)J"⟩ : MethodName)) X149 hx hZ hown (own_w hw 29 rfl) (own_w hw 30 rfl) (own_w hw 31 rfl) (own_w hw 32 rfl) (by decide) (conX l Z a0 hw (1 : Int32) (2 : Int32) p0 _ ) e149 pd3 [(.int (1 : Int32)), (.int (2 : Int32)), (.long p0)] [(.long r149)] rfl rfl rfl (Nat.le_of_eq rfl) (by decide) (by decide) (by rw [hml]; rfl) (hb hby at_152) (by decide) (by decide) rfl ?_
            intro v153 T153 L153 X153 q153
            obtain ⟨r153, rfl, hr153, rfl, e153⟩ := q153
            have N153 := Fr.app N149 (Fr.nil n0)
            show own_WP _ _ _ _ _ _ _ (T153.setTop (mkF m 155 #[.val (.long p0), .second, .val (.long p1), .second, .val (.long p2), .second, .val (.int p3), .val (.int (2 : Int32)), .val (.int v119), .val (.ref b120), .val (.ref b124)] [(.long r153), (.long r149)]))
            refine own_lcmp (pc' := 156) X153 hx (hb hby at_155) rfl ?_
            refine own_ifl_ne (pt := 203) (pf := 159) X153 hx (hb hby at_156) rfl (by decide) rfl (fun hc156 => absurd (by rw [hr149, hr153]; exact (own_exN (by decide)).symm) hc156) (fun hc156 => ?_)
            refine own_aload (pc' := 161) X153 hx (hb hby at_159) rfl rfl rfl ?_
            refine own_iconst (pc' := 162) X153 hx (2 : Int32) (hb hby at_161) rfl rfl ?_
            refine own_callV (pc' := 165) (W := 0) (y := (⟨"com/example/eventual_leader/eventualleader/election/RecoveryCounts", "of", "(I)J"⟩ : MethodName)) (z := (⟨"com/example/eventual_leader/eventualleader/election/RecoveryCounts", "of", "(I)J"⟩ : MethodName)) X153 hx hZ hown (own_w hw 24 rfl) (own_w hw 25 rfl) (notFace_of_selects (args := #[]) (mvT hZ (own_w hw 27 rfl))) (own_w hw 27 rfl) (own_w hw 26 rfl) (own_w hw 4 rfl) (own_w hw 28 rfl) (by decide) f151 (conO l Z a0 hw b124 (2 : Int32) _ c125 k125 [(.long p0), (.long p1), (.long p2)] f150 V137 1 ⟨by decide, by decide⟩ rfl p1 rfl) e153 pd2 [(.int (2 : Int32))] [] rfl rfl rfl (Nat.le_of_eq rfl) (by decide) (by decide) (by rw [hml]; rfl) (hb hby at_162) (by decide) (by decide) rfl ?_
            intro v154 T154 L154 X154 q154
            obtain ⟨r154, rfl, hr154, rfl, e154⟩ := q154
            have N154 := Fr.app N153 (Fr.nil n0)
            show own_WP _ _ _ _ _ _ _ (T154.setTop (mkF m 165 #[.val (.long p0), .second, .val (.long p1), .second, .val (.long p2), .second, .val (.int p3), .val (.int (2 : Int32)), .val (.int v119), .val (.ref b120), .val (.ref b124)] [(.long r154)]))
            refine own_iconst (pc' := 166) X154 hx (2 : Int32) (hb hby at_165) rfl rfl ?_
            refine own_iload (pc' := 168) X154 hx (hb hby at_166) rfl rfl ?_
            refine own_aload (pc' := 170) X154 hx (hb hby at_168) rfl rfl rfl ?_
            refine own_iconst (pc' := 171) X154 hx (1 : Int32) (hb hby at_170) rfl rfl ?_
            refine own_laload (pc' := 172) (v := (.long p1)) X154 hx hZ e154 f152 ⟨by decide, by decide⟩ rfl (hb hby at_171) rfl ?_
            refine own_callS (pc' := 175) (W := 2) (y := (⟨"com/example/eventual_leader/eventualleader/election/RecoveryCountsIncrementPinLaw", "expect", "(IIJ)J"⟩ : MethodName)) X154 hx hZ hown (own_w hw 29 rfl) (own_w hw 30 rfl) (own_w hw 31 rfl) (own_w hw 32 rfl) (by decide) (conX l Z a0 hw (2 : Int32) (2 : Int32) p1 _ ) e154 pd3 [(.int (2 : Int32)), (.int (2 : Int32)), (.long p1)] [(.long r154)] rfl rfl rfl (Nat.le_of_eq rfl) (by decide) (by decide) (by rw [hml]; rfl) (hb hby at_172) (by decide) (by decide) rfl ?_
            intro v155 T155 L155 X155 q155
            obtain ⟨r155, rfl, hr155, rfl, e155⟩ := q155
            have N155 := Fr.app N154 (Fr.nil n0)
            show own_WP _ _ _ _ _ _ _ (T155.setTop (mkF m 175 #[.val (.long p0), .second, .val (.long p1), .second, .val (.long p2), .second, .val (.int p3), .val (.int (2 : Int32)), .val (.int v119), .val (.ref b120), .val (.ref b124)] [(.long r155), (.long r154)]))
            refine own_lcmp (pc' := 176) X155 hx (hb hby at_175) rfl ?_
            refine own_ifl_ne (pt := 203) (pf := 179) X155 hx (hb hby at_176) rfl (by decide) rfl (fun hc176 => absurd (by rw [hr154, hr155]; exact (own_exM hlt).symm) hc176) (fun hc176 => ?_)
            refine own_aload (pc' := 181) X155 hx (hb hby at_179) rfl rfl rfl ?_
            refine own_iconst (pc' := 182) X155 hx (3 : Int32) (hb hby at_181) rfl rfl ?_
            refine own_callV (pc' := 185) (W := 0) (y := (⟨"com/example/eventual_leader/eventualleader/election/RecoveryCounts", "of", "(I)J"⟩ : MethodName)) (z := (⟨"com/example/eventual_leader/eventualleader/election/RecoveryCounts", "of", "(I)J"⟩ : MethodName)) X155 hx hZ hown (own_w hw 24 rfl) (own_w hw 25 rfl) (notFace_of_selects (args := #[]) (mvT hZ (own_w hw 27 rfl))) (own_w hw 27 rfl) (own_w hw 26 rfl) (own_w hw 4 rfl) (own_w hw 28 rfl) (by decide) f151 (conO l Z a0 hw b124 (3 : Int32) _ c125 k125 [(.long p0), (.long p1), (.long p2)] f150 V137 2 ⟨by decide, by decide⟩ rfl p2 rfl) e155 pd2 [(.int (3 : Int32))] [] rfl rfl rfl (Nat.le_of_eq rfl) (by decide) (by decide) (by rw [hml]; rfl) (hb hby at_182) (by decide) (by decide) rfl ?_
            intro v156 T156 L156 X156 q156
            obtain ⟨r156, rfl, hr156, rfl, e156⟩ := q156
            have N156 := Fr.app N155 (Fr.nil n0)
            show own_WP _ _ _ _ _ _ _ (T156.setTop (mkF m 185 #[.val (.long p0), .second, .val (.long p1), .second, .val (.long p2), .second, .val (.int p3), .val (.int (2 : Int32)), .val (.int v119), .val (.ref b120), .val (.ref b124)] [(.long r156)]))
            refine own_iconst (pc' := 186) X156 hx (3 : Int32) (hb hby at_185) rfl rfl ?_
            refine own_iload (pc' := 188) X156 hx (hb hby at_186) rfl rfl ?_
            refine own_aload (pc' := 190) X156 hx (hb hby at_188) rfl rfl rfl ?_
            refine own_iconst (pc' := 191) X156 hx (2 : Int32) (hb hby at_190) rfl rfl ?_
            refine own_laload (pc' := 192) (v := (.long p2)) X156 hx hZ e156 f152 ⟨by decide, by decide⟩ rfl (hb hby at_191) rfl ?_
            refine own_callS (pc' := 195) (W := 2) (y := (⟨"com/example/eventual_leader/eventualleader/election/RecoveryCountsIncrementPinLaw", "expect", "(IIJ)J"⟩ : MethodName)) X156 hx hZ hown (own_w hw 29 rfl) (own_w hw 30 rfl) (own_w hw 31 rfl) (own_w hw 32 rfl) (by decide) (conX l Z a0 hw (3 : Int32) (2 : Int32) p2 _ ) e156 pd3 [(.int (3 : Int32)), (.int (2 : Int32)), (.long p2)] [(.long r156)] rfl rfl rfl (Nat.le_of_eq rfl) (by decide) (by decide) (by rw [hml]; rfl) (hb hby at_192) (by decide) (by decide) rfl ?_
            intro v157 T157 L157 X157 q157
            obtain ⟨r157, rfl, hr157, rfl, e157⟩ := q157
            have N157 := Fr.app N156 (Fr.nil n0)
            show own_WP _ _ _ _ _ _ _ (T157.setTop (mkF m 195 #[.val (.long p0), .second, .val (.long p1), .second, .val (.long p2), .second, .val (.int p3), .val (.int (2 : Int32)), .val (.int v119), .val (.ref b120), .val (.ref b124)] [(.long r157), (.long r156)]))
            refine own_lcmp (pc' := 196) X157 hx (hb hby at_195) rfl ?_
            refine own_ifl_ne (pt := 203) (pf := 199) X157 hx (hb hby at_196) rfl (by decide) rfl (fun hc196 => absurd (by rw [hr156, hr157]; exact (own_exN (by decide)).symm) hc196) (fun hc196 => ?_)
            refine own_iconst (pc' := 200) X157 hx (1 : Int32) (hb hby at_199) rfl rfl ?_
            refine own_goto (pc' := 204) X157 hx (hb hby at_200) (by decide) rfl ?_
            refine own_retN X157 hx hlk (t := .boolean) (by decide) hret (hb hby at_204) (by decide) (by decide) ?_
            exact ⟨rfl, N157⟩
        · skip
          refine own_aload (pc' := 84) X123 hx (hb hby at_82) rfl rfl rfl ?_
          refine own_iload (pc' := 86) X123 hx (hb hby at_84) rfl rfl ?_
          refine own_iconst (pc' := 87) X123 hx (1 : Int32) (hb hby at_86) rfl rfl ?_
          refine own_isub (pc' := 88) X123 hx (hb hby at_87) rfl ?_
          show own_WP _ _ _ _ _ _ _ (T123.setTop (mkF m 88 #[.val (.long p0), .second, .val (.long p1), .second, .val (.long p2), .second, .val (.int p3), .val (.int (2 : Int32)), .val (.int v119), .val (.ref b120), .unset] [(.int (1 : Int32)), (.ref b120)]))
          refine own_ldc2Long (pc' := 91) X123 hx hZ hown (own_w hw 35 rfl) (hb hby at_88) rfl ?_
          refine own_lastore (pc' := 92) X123 hx hZ e123 V123 ⟨by decide, by decide⟩ 1 rfl (Nat.le_of_ble_eq_true rfl) (hb hby at_91) rfl ?_
          intro T158 h158 X158 e158 W158 V158
          have z158 : n0 ≤ h158.size := Nat.le_trans z123 (Keep.of_wr W158).1
          have V158 : Arv Z h158 b120 k120 .long (3 : Int32) [(.long p0), (.long (-9223372036854775808 : Int64)), (.long p2)] (.long (0 : Int64)) := V158
          have N158 := Fr.snoc X158 N123 g_b120
          refine own_new (pc' := 95) X158 hx hZ hown (own_w hw 2 rfl) (own_w hw 3 rfl) (own_w hw 4 rfl) e158 (hb hby at_92) (by decide) (by decide) rfl ?_
          intro T159 h159 b159 g159 X159 e159 E159 A159 D159
          have ne_b120_b159 : b120 ≠ b159 := Nat.ne_of_lt (Nat.lt_of_lt_of_le V158.lt (Nat.le_of_eq g159.symm))
          have ne_b159_b120 := ne_b120_b159.symm
          have g_b159 : n0 ≤ b159 := Nat.le_trans z158 (Nat.le_of_eq g159.symm)
          have z159 : n0 ≤ h159.size := Nat.le_trans z158 E159.1
          have F159_counts : Fld Z h159 b159 "com/example/eventual_leader/eventualleader/election/RecoveryCounts" "counts" "[J" .null := D159 (Or.inr (own_w hw 12 rfl)) (ty := (.array .long)) (by decide +kernel)
          refine own_dup (pc' := 96) X159 hx (hb hby at_95) rfl rfl ?_
          refine own_iconst (pc' := 97) X159 hx (3 : Int32) (hb hby at_96) rfl rfl ?_
          refine own_callN (pc' := 100) (W := 1) (y := (⟨"com/example/eventual_leader/eventualleader/election/RecoveryCounts", "<init>", "(I)V"⟩ : MethodName)) X159 hx hZ rfl hown (own_w hw 5 rfl) (own_w hw 6 rfl) (own_w hw 4 rfl) (own_w hw 7 rfl) (by decide) (conI l Z a0 hw b159 _ n0 z159 A159 F159_counts g_b159) e159 pd0 b159 [(.int (3 : Int32))] [(.ref b159)] rfl rfl rfl (Nat.le_of_eq rfl) (by decide) (by decide) (by rw [hml]; rfl) (hb hby at_97) (by decide) (by decide) rfl ?_
          intro v160 T160 L160 X160 q160
          obtain ⟨c160, k160, rfl, M160, K160, E160q, F160q, V160, g_c160, s160⟩ := q160
          have f161 := (V158.ext E159)
          have ne_b120_c160 : b120 ≠ c160 := Nat.ne_of_lt (Nat.lt_of_lt_of_le f161.lt s160)
          have ne_c160_b120 := ne_b120_c160.symm
          have ne_b159_c160 : b159 ≠ c160 := Nat.ne_of_lt (Nat.lt_of_lt_of_le A159.lt s160)
          have ne_c160_b159 := ne_b159_c160.symm
          obtain ⟨h160, e160⟩ : ∃ z, z = T160.heap := ⟨_, rfl⟩
          rw [← e160] at K160 E160q F160q V160
          have e160 := e160.symm
          have z160 : n0 ≤ h160.size := Nat.le_trans z159 K160.1
          have N160 := Fr.app N158 M160
          show own_WP _ _ _ _ _ _ _ (T160.setTop (mkF m 100 #[.val (.long p0), .second, .val (.long p1), .second, .val (.long p2), .second, .val (.int p3), .val (.int (2 : Int32)), .val (.int v119), .val (.ref b120), .unset] [(.ref b159)]))
          refine own_astore (pc' := 102) (l' := #[.val (.long p0), .second, .val (.long p1), .second, .val (.long p2), .second, .val (.int p3), .val (.int (2 : Int32)), .val (.int v119), .val (.ref b120), .val (.ref b159)]) X160 hx (hb hby at_100) rfl rfl rfl ?_
          refine own_aload (pc' := 104) X160 hx (hb hby at_102) rfl rfl rfl ?_
          refine own_iconst (pc' := 105) X160 hx (1 : Int32) (hb hby at_104) rfl rfl ?_
          refine own_aload (pc' := 107) X160 hx (hb hby at_105) rfl rfl rfl ?_
          refine own_iconst (pc' := 108) X160 hx (0 : Int32) (hb hby at_107) rfl rfl ?_
          have f162 := (f161.keep K160 (ninS ne_b120_b159 nin0))
          refine own_laload (pc' := 109) (v := (.long p0)) X160 hx hZ e160 f162 ⟨by decide, by decide⟩ rfl (hb hby at_108) rfl ?_
          refine own_callV (pc' := 112) (W := 0) (y := (⟨"com/example/eventual_leader/eventualleader/election/RecoveryCounts", "set", "(IJ)V"⟩ : MethodName)) (z := (⟨"com/example/eventual_leader/eventualleader/election/RecoveryCounts", "set", "(IJ)V"⟩ : MethodName)) X160 hx hZ hown (own_w hw 13 rfl) (own_w hw 14 rfl) (notFace_of_selects (args := #[]) (mvT hZ (own_w hw 16 rfl))) (own_w hw 16 rfl) (own_w hw 15 rfl) (own_w hw 4 rfl) (own_w hw 17 rfl) (by decide) E160q (conS l Z a0 hw b159 (1 : Int32) p0 _ n0 z160 c160 k160 [(.long (0 : Int64)), (.long (0 : Int64)), (.long (0 : Int64))] F160q V160 0 ⟨by decide, by decide⟩ rfl (Nat.le_of_ble_eq_true rfl) g_c160) e160 pd1 [(.int (1 : Int32)), (.long p0)] [] rfl rfl rfl (Nat.le_of_eq rfl) (by decide) (by decide) (by rw [hml]; rfl) (hb hby at_109) (by decide) (by decide) rfl ?_
          intro v163 T163 L163 X163 q163
          obtain ⟨rfl, M163, K163, V163⟩ := q163
          obtain ⟨h163, e163⟩ : ∃ z, z = T163.heap := ⟨_, rfl⟩
          rw [← e163] at K163 V163
          have e163 := e163.symm
          have z163 : n0 ≤ h163.size := Nat.le_trans z160 K163.1
          have V163 : Arv Z h163 c160 k160 .long 3 [(.long p0), (.long (0 : Int64)), (.long (0 : Int64))] (.long 0) := V163
          have N163 := Fr.app N160 M163
          show own_WP _ _ _ _ _ _ _ (T163.setTop (mkF m 112 #[.val (.long p0), .second, .val (.long p1), .second, .val (.long p2), .second, .val (.int p3), .val (.int (2 : Int32)), .val (.int v119), .val (.ref b120), .val (.ref b159)] []))
          refine own_aload (pc' := 114) X163 hx (hb hby at_112) rfl rfl rfl ?_
          refine own_iconst (pc' := 115) X163 hx (2 : Int32) (hb hby at_114) rfl rfl ?_
          refine own_aload (pc' := 117) X163 hx (hb hby at_115) rfl rfl rfl ?_
          refine own_iconst (pc' := 118) X163 hx (1 : Int32) (hb hby at_117) rfl rfl ?_
          have f164 := (f162.keep K163 (ninS ne_b120_c160 nin0))
          refine own_laload (pc' := 119) (v := (.long (-9223372036854775808 : Int64))) X163 hx hZ e163 f164 ⟨by decide, by decide⟩ rfl (hb hby at_118) rfl ?_
          have f166 := (F160q.keep K163 (ninS ne_b159_c160 nin0))
          have f167 := (E160q.keep K163)
          refine own_callV (pc' := 122) (W := 0) (y := (⟨"com/example/eventual_leader/eventualleader/election/RecoveryCounts", "set", "(IJ)V"⟩ : MethodName)) (z := (⟨"com/example/eventual_leader/eventualleader/election/RecoveryCounts", "set", "(IJ)V"⟩ : MethodName)) X163 hx hZ hown (own_w hw 13 rfl) (own_w hw 14 rfl) (notFace_of_selects (args := #[]) (mvT hZ (own_w hw 16 rfl))) (own_w hw 16 rfl) (own_w hw 15 rfl) (own_w hw 4 rfl) (own_w hw 17 rfl) (by decide) f167 (conS l Z a0 hw b159 (2 : Int32) (-9223372036854775808 : Int64) _ n0 z163 c160 k160 [(.long p0), (.long (0 : Int64)), (.long (0 : Int64))] f166 V163 1 ⟨by decide, by decide⟩ rfl (Nat.le_of_ble_eq_true rfl) g_c160) e163 pd1 [(.int (2 : Int32)), (.long (-9223372036854775808 : Int64))] [] rfl rfl rfl (Nat.le_of_eq rfl) (by decide) (by decide) (by rw [hml]; rfl) (hb hby at_119) (by decide) (by decide) rfl ?_
          intro v165 T165 L165 X165 q165
          obtain ⟨rfl, M165, K165, V165⟩ := q165
          obtain ⟨h165, e165⟩ : ∃ z, z = T165.heap := ⟨_, rfl⟩
          rw [← e165] at K165 V165
          have e165 := e165.symm
          have z165 : n0 ≤ h165.size := Nat.le_trans z163 K165.1
          have V165 : Arv Z h165 c160 k160 .long 3 [(.long p0), (.long (-9223372036854775808 : Int64)), (.long (0 : Int64))] (.long 0) := V165
          have N165 := Fr.app N163 M165
          show own_WP _ _ _ _ _ _ _ (T165.setTop (mkF m 122 #[.val (.long p0), .second, .val (.long p1), .second, .val (.long p2), .second, .val (.int p3), .val (.int (2 : Int32)), .val (.int v119), .val (.ref b120), .val (.ref b159)] []))
          refine own_aload (pc' := 124) X165 hx (hb hby at_122) rfl rfl rfl ?_
          refine own_iconst (pc' := 125) X165 hx (3 : Int32) (hb hby at_124) rfl rfl ?_
          refine own_aload (pc' := 127) X165 hx (hb hby at_125) rfl rfl rfl ?_
          refine own_iconst (pc' := 128) X165 hx (2 : Int32) (hb hby at_127) rfl rfl ?_
          have f168 := (f164.keep K165 (ninS ne_b120_c160 nin0))
          refine own_laload (pc' := 129) (v := (.long p2)) X165 hx hZ e165 f168 ⟨by decide, by decide⟩ rfl (hb hby at_128) rfl ?_
          have f170 := (f166.keep K165 (ninS ne_b159_c160 nin0))
          have f171 := (f167.keep K165)
          refine own_callV (pc' := 132) (W := 0) (y := (⟨"com/example/eventual_leader/eventualleader/election/RecoveryCounts", "set", "(IJ)V"⟩ : MethodName)) (z := (⟨"com/example/eventual_leader/eventualleader/election/RecoveryCounts", "set", "(IJ)V"⟩ : MethodName)) X165 hx hZ hown (own_w hw 13 rfl) (own_w hw 14 rfl) (notFace_of_selects (args := #[]) (mvT hZ (own_w hw 16 rfl))) (own_w hw 16 rfl) (own_w hw 15 rfl) (own_w hw 4 rfl) (own_w hw 17 rfl) (by decide) f171 (conS l Z a0 hw b159 (3 : Int32) p2 _ n0 z165 c160 k160 [(.long p0), (.long (-9223372036854775808 : Int64)), (.long (0 : Int64))] f170 V165 2 ⟨by decide, by decide⟩ rfl (Nat.le_of_ble_eq_true rfl) g_c160) e165 pd1 [(.int (3 : Int32)), (.long p2)] [] rfl rfl rfl (Nat.le_of_eq rfl) (by decide) (by decide) (by rw [hml]; rfl) (hb hby at_129) (by decide) (by decide) rfl ?_
          intro v169 T169 L169 X169 q169
          obtain ⟨rfl, M169, K169, V169⟩ := q169
          obtain ⟨h169, e169⟩ : ∃ z, z = T169.heap := ⟨_, rfl⟩
          rw [← e169] at K169 V169
          have e169 := e169.symm
          have z169 : n0 ≤ h169.size := Nat.le_trans z165 K169.1
          have V169 : Arv Z h169 c160 k160 .long 3 [(.long p0), (.long (-9223372036854775808 : Int64)), (.long p2)] (.long 0) := V169
          have N169 := Fr.app N165 M169
          show own_WP _ _ _ _ _ _ _ (T169.setTop (mkF m 132 #[.val (.long p0), .second, .val (.long p1), .second, .val (.long p2), .second, .val (.int p3), .val (.int (2 : Int32)), .val (.int v119), .val (.ref b120), .val (.ref b159)] []))
          refine own_aload (pc' := 134) X169 hx (hb hby at_132) rfl rfl rfl ?_
          refine own_iload (pc' := 136) X169 hx (hb hby at_134) rfl rfl ?_
          have f173 := (f170.keep K169 (ninS ne_b159_c160 nin0))
          have f174 := (f171.keep K169)
          refine own_callV (pc' := 139) (W := 0) (y := (⟨"com/example/eventual_leader/eventualleader/election/RecoveryCounts", "increment", "(I)V"⟩ : MethodName)) (z := (⟨"com/example/eventual_leader/eventualleader/election/RecoveryCounts", "increment", "(I)V"⟩ : MethodName)) X169 hx hZ hown (own_w hw 18 rfl) (own_w hw 19 rfl) (notFace_of_selects (args := #[]) (mvT hZ (own_w hw 21 rfl))) (own_w hw 21 rfl) (own_w hw 20 rfl) (own_w hw 4 rfl) (own_w hw 22 rfl) (by decide) f174 (conN l Z a0 hw b159 (2 : Int32) _ n0 z169 c160 k160 [(.long p0), (.long (-9223372036854775808 : Int64)), (.long p2)] f173 V169 1 ⟨by decide, by decide⟩ rfl (Nat.le_of_ble_eq_true rfl) g_c160 (-9223372036854775808 : Int64) rfl) e169 pd0 [(.int (2 : Int32))] [] rfl rfl rfl (Nat.le_of_eq rfl) (by decide) (by decide) (by rw [hml]; rfl) (hb hby at_136) (by decide) (by decide) rfl ?_
          intro v172 T172 L172 X172 q172
          obtain ⟨rfl, M172, K172, V172⟩ := q172
          obtain ⟨h172, e172⟩ : ∃ z, z = T172.heap := ⟨_, rfl⟩
          rw [← e172] at K172 V172
          have e172 := e172.symm
          have z172 : n0 ≤ h172.size := Nat.le_trans z169 K172.1
          have N172 := Fr.app N169 M172
          have hlt : (-9223372036854775808 : Int64) < (9223372036854775807 : Int64) := by decide
          rw [if_pos hlt] at V172
          have V172 : Arv Z h172 c160 k160 .long 3 [(.long p0), (.long ((-9223372036854775808 : Int64) + 1)), (.long p2)] (.long 0) := V172
          show own_WP _ _ _ _ _ _ _ (T172.setTop (mkF m 139 #[.val (.long p0), .second, .val (.long p1), .second, .val (.long p2), .second, .val (.int p3), .val (.int (2 : Int32)), .val (.int v119), .val (.ref b120), .val (.ref b159)] []))
          refine own_aload (pc' := 141) X172 hx (hb hby at_139) rfl rfl rfl ?_
          refine own_iconst (pc' := 142) X172 hx (1 : Int32) (hb hby at_141) rfl rfl ?_
          have f176 := (f173.keep K172 (ninS ne_b159_c160 nin0))
          have f177 := (f174.keep K172)
          refine own_callV (pc' := 145) (W := 0) (y := (⟨"com/example/eventual_leader/eventualleader/election/RecoveryCounts", "of", "(I)J"⟩ : MethodName)) (z := (⟨"com/example/eventual_leader/eventualleader/election/RecoveryCounts", "of", "(I)J"⟩ : MethodName)) X172 hx hZ hown (own_w hw 24 rfl) (own_w hw 25 rfl) (notFace_of_selects (args := #[]) (mvT hZ (own_w hw 27 rfl))) (own_w hw 27 rfl) (own_w hw 26 rfl) (own_w hw 4 rfl) (own_w hw 28 rfl) (by decide) f177 (conO l Z a0 hw b159 (1 : Int32) _ c160 k160 [(.long p0), (.long ((-9223372036854775808 : Int64) + 1)), (.long p2)] f176 V172 0 ⟨by decide, by decide⟩ rfl p0 rfl) e172 pd2 [(.int (1 : Int32))] [] rfl rfl rfl (Nat.le_of_eq rfl) (by decide) (by decide) (by rw [hml]; rfl) (hb hby at_142) (by decide) (by decide) rfl ?_
          intro v175 T175 L175 X175 q175
          obtain ⟨r175, rfl, hr175, rfl, e175⟩ := q175
          have N175 := Fr.app N172 (Fr.nil n0)
          show own_WP _ _ _ _ _ _ _ (T175.setTop (mkF m 145 #[.val (.long p0), .second, .val (.long p1), .second, .val (.long p2), .second, .val (.int p3), .val (.int (2 : Int32)), .val (.int v119), .val (.ref b120), .val (.ref b159)] [(.long r175)]))
          refine own_iconst (pc' := 146) X175 hx (1 : Int32) (hb hby at_145) rfl rfl ?_
          refine own_iload (pc' := 148) X175 hx (hb hby at_146) rfl rfl ?_
          refine own_aload (pc' := 150) X175 hx (hb hby at_148) rfl rfl rfl ?_
          refine own_iconst (pc' := 151) X175 hx (0 : Int32) (hb hby at_150) rfl rfl ?_
          have f178 := ((f168.keep K169 (ninS ne_b120_c160 nin0)).keep K172 (ninS ne_b120_c160 nin0))
          refine own_laload (pc' := 152) (v := (.long p0)) X175 hx hZ e175 f178 ⟨by decide, by decide⟩ rfl (hb hby at_151) rfl ?_
          refine own_callS (pc' := 155) (W := 2) (y := (⟨"com/example/eventual_leader/eventualleader/election/RecoveryCountsIncrementPinLaw", "expect", "(IIJ)J"⟩ : MethodName)) X175 hx hZ hown (own_w hw 29 rfl) (own_w hw 30 rfl) (own_w hw 31 rfl) (own_w hw 32 rfl) (by decide) (conX l Z a0 hw (1 : Int32) (2 : Int32) p0 _ ) e175 pd3 [(.int (1 : Int32)), (.int (2 : Int32)), (.long p0)] [(.long r175)] rfl rfl rfl (Nat.le_of_eq rfl) (by decide) (by decide) (by rw [hml]; rfl) (hb hby at_152) (by decide) (by decide) rfl ?_
          intro v179 T179 L179 X179 q179
          obtain ⟨r179, rfl, hr179, rfl, e179⟩ := q179
          have N179 := Fr.app N175 (Fr.nil n0)
          show own_WP _ _ _ _ _ _ _ (T179.setTop (mkF m 155 #[.val (.long p0), .second, .val (.long p1), .second, .val (.long p2), .second, .val (.int p3), .val (.int (2 : Int32)), .val (.int v119), .val (.ref b120), .val (.ref b159)] [(.long r179), (.long r175)]))
          refine own_lcmp (pc' := 156) X179 hx (hb hby at_155) rfl ?_
          refine own_ifl_ne (pt := 203) (pf := 159) X179 hx (hb hby at_156) rfl (by decide) rfl (fun hc156 => absurd (by rw [hr175, hr179]; exact (own_exN (by decide)).symm) hc156) (fun hc156 => ?_)
          refine own_aload (pc' := 161) X179 hx (hb hby at_159) rfl rfl rfl ?_
          refine own_iconst (pc' := 162) X179 hx (2 : Int32) (hb hby at_161) rfl rfl ?_
          refine own_callV (pc' := 165) (W := 0) (y := (⟨"com/example/eventual_leader/eventualleader/election/RecoveryCounts", "of", "(I)J"⟩ : MethodName)) (z := (⟨"com/example/eventual_leader/eventualleader/election/RecoveryCounts", "of", "(I)J"⟩ : MethodName)) X179 hx hZ hown (own_w hw 24 rfl) (own_w hw 25 rfl) (notFace_of_selects (args := #[]) (mvT hZ (own_w hw 27 rfl))) (own_w hw 27 rfl) (own_w hw 26 rfl) (own_w hw 4 rfl) (own_w hw 28 rfl) (by decide) f177 (conO l Z a0 hw b159 (2 : Int32) _ c160 k160 [(.long p0), (.long ((-9223372036854775808 : Int64) + 1)), (.long p2)] f176 V172 1 ⟨by decide, by decide⟩ rfl ((-9223372036854775808 : Int64) + 1) rfl) e179 pd2 [(.int (2 : Int32))] [] rfl rfl rfl (Nat.le_of_eq rfl) (by decide) (by decide) (by rw [hml]; rfl) (hb hby at_162) (by decide) (by decide) rfl ?_
          intro v180 T180 L180 X180 q180
          obtain ⟨r180, rfl, hr180, rfl, e180⟩ := q180
          have N180 := Fr.app N179 (Fr.nil n0)
          show own_WP _ _ _ _ _ _ _ (T180.setTop (mkF m 165 #[.val (.long p0), .second, .val (.long p1), .second, .val (.long p2), .second, .val (.int p3), .val (.int (2 : Int32)), .val (.int v119), .val (.ref b120), .val (.ref b159)] [(.long r180)]))
          refine own_iconst (pc' := 166) X180 hx (2 : Int32) (hb hby at_165) rfl rfl ?_
          refine own_iload (pc' := 168) X180 hx (hb hby at_166) rfl rfl ?_
          refine own_aload (pc' := 170) X180 hx (hb hby at_168) rfl rfl rfl ?_
          refine own_iconst (pc' := 171) X180 hx (1 : Int32) (hb hby at_170) rfl rfl ?_
          refine own_laload (pc' := 172) (v := (.long (-9223372036854775808 : Int64))) X180 hx hZ e180 f178 ⟨by decide, by decide⟩ rfl (hb hby at_171) rfl ?_
          refine own_callS (pc' := 175) (W := 2) (y := (⟨"com/example/eventual_leader/eventualleader/election/RecoveryCountsIncrementPinLaw", "expect", "(IIJ)J"⟩ : MethodName)) X180 hx hZ hown (own_w hw 29 rfl) (own_w hw 30 rfl) (own_w hw 31 rfl) (own_w hw 32 rfl) (by decide) (conX l Z a0 hw (2 : Int32) (2 : Int32) (-9223372036854775808 : Int64) _ ) e180 pd3 [(.int (2 : Int32)), (.int (2 : Int32)), (.long (-9223372036854775808 : Int64))] [(.long r180)] rfl rfl rfl (Nat.le_of_eq rfl) (by decide) (by decide) (by rw [hml]; rfl) (hb hby at_172) (by decide) (by decide) rfl ?_
          intro v181 T181 L181 X181 q181
          obtain ⟨r181, rfl, hr181, rfl, e181⟩ := q181
          have N181 := Fr.app N180 (Fr.nil n0)
          show own_WP _ _ _ _ _ _ _ (T181.setTop (mkF m 175 #[.val (.long p0), .second, .val (.long p1), .second, .val (.long p2), .second, .val (.int p3), .val (.int (2 : Int32)), .val (.int v119), .val (.ref b120), .val (.ref b159)] [(.long r181), (.long r180)]))
          refine own_lcmp (pc' := 176) X181 hx (hb hby at_175) rfl ?_
          refine own_ifl_ne (pt := 203) (pf := 179) X181 hx (hb hby at_176) rfl (by decide) rfl (fun hc176 => absurd (by rw [hr180, hr181]; exact (own_exY hlt).symm) hc176) (fun hc176 => ?_)
          refine own_aload (pc' := 181) X181 hx (hb hby at_179) rfl rfl rfl ?_
          refine own_iconst (pc' := 182) X181 hx (3 : Int32) (hb hby at_181) rfl rfl ?_
          refine own_callV (pc' := 185) (W := 0) (y := (⟨"com/example/eventual_leader/eventualleader/election/RecoveryCounts", "of", "(I)J"⟩ : MethodName)) (z := (⟨"com/example/eventual_leader/eventualleader/election/RecoveryCounts", "of", "(I)J"⟩ : MethodName)) X181 hx hZ hown (own_w hw 24 rfl) (own_w hw 25 rfl) (notFace_of_selects (args := #[]) (mvT hZ (own_w hw 27 rfl))) (own_w hw 27 rfl) (own_w hw 26 rfl) (own_w hw 4 rfl) (own_w hw 28 rfl) (by decide) f177 (conO l Z a0 hw b159 (3 : Int32) _ c160 k160 [(.long p0), (.long ((-9223372036854775808 : Int64) + 1)), (.long p2)] f176 V172 2 ⟨by decide, by decide⟩ rfl p2 rfl) e181 pd2 [(.int (3 : Int32))] [] rfl rfl rfl (Nat.le_of_eq rfl) (by decide) (by decide) (by rw [hml]; rfl) (hb hby at_182) (by decide) (by decide) rfl ?_
          intro v182 T182 L182 X182 q182
          obtain ⟨r182, rfl, hr182, rfl, e182⟩ := q182
          have N182 := Fr.app N181 (Fr.nil n0)
          show own_WP _ _ _ _ _ _ _ (T182.setTop (mkF m 185 #[.val (.long p0), .second, .val (.long p1), .second, .val (.long p2), .second, .val (.int p3), .val (.int (2 : Int32)), .val (.int v119), .val (.ref b120), .val (.ref b159)] [(.long r182)]))
          refine own_iconst (pc' := 186) X182 hx (3 : Int32) (hb hby at_185) rfl rfl ?_
          refine own_iload (pc' := 188) X182 hx (hb hby at_186) rfl rfl ?_
          refine own_aload (pc' := 190) X182 hx (hb hby at_188) rfl rfl rfl ?_
          refine own_iconst (pc' := 191) X182 hx (2 : Int32) (hb hby at_190) rfl rfl ?_
          refine own_laload (pc' := 192) (v := (.long p2)) X182 hx hZ e182 f178 ⟨by decide, by decide⟩ rfl (hb hby at_191) rfl ?_
          refine own_callS (pc' := 195) (W := 2) (y := (⟨"com/example/eventual_leader/eventualleader/election/RecoveryCountsIncrementPinLaw", "expect", "(IIJ)J"⟩ : MethodName)) X182 hx hZ hown (own_w hw 29 rfl) (own_w hw 30 rfl) (own_w hw 31 rfl) (own_w hw 32 rfl) (by decide) (conX l Z a0 hw (3 : Int32) (2 : Int32) p2 _ ) e182 pd3 [(.int (3 : Int32)), (.int (2 : Int32)), (.long p2)] [(.long r182)] rfl rfl rfl (Nat.le_of_eq rfl) (by decide) (by decide) (by rw [hml]; rfl) (hb hby at_192) (by decide) (by decide) rfl ?_
          intro v183 T183 L183 X183 q183
          obtain ⟨r183, rfl, hr183, rfl, e183⟩ := q183
          have N183 := Fr.app N182 (Fr.nil n0)
          show own_WP _ _ _ _ _ _ _ (T183.setTop (mkF m 195 #[.val (.long p0), .second, .val (.long p1), .second, .val (.long p2), .second, .val (.int p3), .val (.int (2 : Int32)), .val (.int v119), .val (.ref b120), .val (.ref b159)] [(.long r183), (.long r182)]))
          refine own_lcmp (pc' := 196) X183 hx (hb hby at_195) rfl ?_
          refine own_ifl_ne (pt := 203) (pf := 199) X183 hx (hb hby at_196) rfl (by decide) rfl (fun hc196 => absurd (by rw [hr182, hr183]; exact (own_exN (by decide)).symm) hc196) (fun hc196 => ?_)
          refine own_iconst (pc' := 200) X183 hx (1 : Int32) (hb hby at_199) rfl rfl ?_
          refine own_goto (pc' := 204) X183 hx (hb hby at_200) (by decide) rfl ?_
          refine own_retN X183 hx hlk (t := .boolean) (by decide) hret (hb hby at_204) (by decide) (by decide) ?_
          exact ⟨rfl, N183⟩
      · skip
        refine own_aload (pc' := 65) X123 hx (hb hby at_63) rfl rfl rfl ?_
        refine own_iload (pc' := 67) X123 hx (hb hby at_65) rfl rfl ?_
        refine own_iconst (pc' := 68) X123 hx (1 : Int32) (hb hby at_67) rfl rfl ?_
        refine own_isub (pc' := 69) X123 hx (hb hby at_68) rfl ?_
        show own_WP _ _ _ _ _ _ _ (T123.setTop (mkF m 69 #[.val (.long p0), .second, .val (.long p1), .second, .val (.long p2), .second, .val (.int p3), .val (.int (2 : Int32)), .val (.int v119), .val (.ref b120), .unset] [(.int (1 : Int32)), (.ref b120)]))
        refine own_ldc2Long (pc' := 72) X123 hx hZ hown (own_w hw 34 rfl) (hb hby at_69) rfl ?_
        refine own_lastore (pc' := 73) X123 hx hZ e123 V123 ⟨by decide, by decide⟩ 1 rfl (Nat.le_of_ble_eq_true rfl) (hb hby at_72) rfl ?_
        intro T184 h184 X184 e184 W184 V184
        have z184 : n0 ≤ h184.size := Nat.le_trans z123 (Keep.of_wr W184).1
        have V184 : Arv Z h184 b120 k120 .long (3 : Int32) [(.long p0), (.long (9223372036854775806 : Int64)), (.long p2)] (.long (0 : Int64)) := V184
        have N184 := Fr.snoc X184 N123 g_b120
        refine own_goto (pc' := 92) X184 hx (hb hby at_73) (by decide) rfl ?_
        refine own_new (pc' := 95) X184 hx hZ hown (own_w hw 2 rfl) (own_w hw 3 rfl) (own_w hw 4 rfl) e184 (hb hby at_92) (by decide) (by decide) rfl ?_
        intro T185 h185 b185 g185 X185 e185 E185 A185 D185
        have ne_b120_b185 : b120 ≠ b185 := Nat.ne_of_lt (Nat.lt_of_lt_of_le V184.lt (Nat.le_of_eq g185.symm))
        have ne_b185_b120 := ne_b120_b185.symm
        have g_b185 : n0 ≤ b185 := Nat.le_trans z184 (Nat.le_of_eq g185.symm)
        have z185 : n0 ≤ h185.size := Nat.le_trans z184 E185.1
        have F185_counts : Fld Z h185 b185 "com/example/eventual_leader/eventualleader/election/RecoveryCounts" "counts" "[J" .null := D185 (Or.inr (own_w hw 12 rfl)) (ty := (.array .long)) (by decide +kernel)
        refine own_dup (pc' := 96) X185 hx (hb hby at_95) rfl rfl ?_
        refine own_iconst (pc' := 97) X185 hx (3 : Int32) (hb hby at_96) rfl rfl ?_
        refine own_callN (pc' := 100) (W := 1) (y := (⟨"com/example/eventual_leader/eventualleader/election/RecoveryCounts", "<init>", "(I)V"⟩ : MethodName)) X185 hx hZ rfl hown (own_w hw 5 rfl) (own_w hw 6 rfl) (own_w hw 4 rfl) (own_w hw 7 rfl) (by decide) (conI l Z a0 hw b185 _ n0 z185 A185 F185_counts g_b185) e185 pd0 b185 [(.int (3 : Int32))] [(.ref b185)] rfl rfl rfl (Nat.le_of_eq rfl) (by decide) (by decide) (by rw [hml]; rfl) (hb hby at_97) (by decide) (by decide) rfl ?_
        intro v186 T186 L186 X186 q186
        obtain ⟨c186, k186, rfl, M186, K186, E186q, F186q, V186, g_c186, s186⟩ := q186
        have f187 := (V184.ext E185)
        have ne_b120_c186 : b120 ≠ c186 := Nat.ne_of_lt (Nat.lt_of_lt_of_le f187.lt s186)
        have ne_c186_b120 := ne_b120_c186.symm
        have ne_b185_c186 : b185 ≠ c186 := Nat.ne_of_lt (Nat.lt_of_lt_of_le A185.lt s186)
        have ne_c186_b185 := ne_b185_c186.symm
        obtain ⟨h186, e186⟩ : ∃ z, z = T186.heap := ⟨_, rfl⟩
        rw [← e186] at K186 E186q F186q V186
        have e186 := e186.symm
        have z186 : n0 ≤ h186.size := Nat.le_trans z185 K186.1
        have N186 := Fr.app N184 M186
        show own_WP _ _ _ _ _ _ _ (T186.setTop (mkF m 100 #[.val (.long p0), .second, .val (.long p1), .second, .val (.long p2), .second, .val (.int p3), .val (.int (2 : Int32)), .val (.int v119), .val (.ref b120), .unset] [(.ref b185)]))
        refine own_astore (pc' := 102) (l' := #[.val (.long p0), .second, .val (.long p1), .second, .val (.long p2), .second, .val (.int p3), .val (.int (2 : Int32)), .val (.int v119), .val (.ref b120), .val (.ref b185)]) X186 hx (hb hby at_100) rfl rfl rfl ?_
        refine own_aload (pc' := 104) X186 hx (hb hby at_102) rfl rfl rfl ?_
        refine own_iconst (pc' := 105) X186 hx (1 : Int32) (hb hby at_104) rfl rfl ?_
        refine own_aload (pc' := 107) X186 hx (hb hby at_105) rfl rfl rfl ?_
        refine own_iconst (pc' := 108) X186 hx (0 : Int32) (hb hby at_107) rfl rfl ?_
        have f188 := (f187.keep K186 (ninS ne_b120_b185 nin0))
        refine own_laload (pc' := 109) (v := (.long p0)) X186 hx hZ e186 f188 ⟨by decide, by decide⟩ rfl (hb hby at_108) rfl ?_
        refine own_callV (pc' := 112) (W := 0) (y := (⟨"com/example/eventual_leader/eventualleader/election/RecoveryCounts", "set", "(IJ)V"⟩ : MethodName)) (z := (⟨"com/example/eventual_leader/eventualleader/election/RecoveryCounts", "set", "(IJ)V"⟩ : MethodName)) X186 hx hZ hown (own_w hw 13 rfl) (own_w hw 14 rfl) (notFace_of_selects (args := #[]) (mvT hZ (own_w hw 16 rfl))) (own_w hw 16 rfl) (own_w hw 15 rfl) (own_w hw 4 rfl) (own_w hw 17 rfl) (by decide) E186q (conS l Z a0 hw b185 (1 : Int32) p0 _ n0 z186 c186 k186 [(.long (0 : Int64)), (.long (0 : Int64)), (.long (0 : Int64))] F186q V186 0 ⟨by decide, by decide⟩ rfl (Nat.le_of_ble_eq_true rfl) g_c186) e186 pd1 [(.int (1 : Int32)), (.long p0)] [] rfl rfl rfl (Nat.le_of_eq rfl) (by decide) (by decide) (by rw [hml]; rfl) (hb hby at_109) (by decide) (by decide) rfl ?_
        intro v189 T189 L189 X189 q189
        obtain ⟨rfl, M189, K189, V189⟩ := q189
        obtain ⟨h189, e189⟩ : ∃ z, z = T189.heap := ⟨_, rfl⟩
        rw [← e189] at K189 V189
        have e189 := e189.symm
        have z189 : n0 ≤ h189.size := Nat.le_trans z186 K189.1
        have V189 : Arv Z h189 c186 k186 .long 3 [(.long p0), (.long (0 : Int64)), (.long (0 : Int64))] (.long 0) := V189
        have N189 := Fr.app N186 M189
        show own_WP _ _ _ _ _ _ _ (T189.setTop (mkF m 112 #[.val (.long p0), .second, .val (.long p1), .second, .val (.long p2), .second, .val (.int p3), .val (.int (2 : Int32)), .val (.int v119), .val (.ref b120), .val (.ref b185)] []))
        refine own_aload (pc' := 114) X189 hx (hb hby at_112) rfl rfl rfl ?_
        refine own_iconst (pc' := 115) X189 hx (2 : Int32) (hb hby at_114) rfl rfl ?_
        refine own_aload (pc' := 117) X189 hx (hb hby at_115) rfl rfl rfl ?_
        refine own_iconst (pc' := 118) X189 hx (1 : Int32) (hb hby at_117) rfl rfl ?_
        have f190 := (f188.keep K189 (ninS ne_b120_c186 nin0))
        refine own_laload (pc' := 119) (v := (.long (9223372036854775806 : Int64))) X189 hx hZ e189 f190 ⟨by decide, by decide⟩ rfl (hb hby at_118) rfl ?_
        have f192 := (F186q.keep K189 (ninS ne_b185_c186 nin0))
        have f193 := (E186q.keep K189)
        refine own_callV (pc' := 122) (W := 0) (y := (⟨"com/example/eventual_leader/eventualleader/election/RecoveryCounts", "set", "(IJ)V"⟩ : MethodName)) (z := (⟨"com/example/eventual_leader/eventualleader/election/RecoveryCounts", "set", "(IJ)V"⟩ : MethodName)) X189 hx hZ hown (own_w hw 13 rfl) (own_w hw 14 rfl) (notFace_of_selects (args := #[]) (mvT hZ (own_w hw 16 rfl))) (own_w hw 16 rfl) (own_w hw 15 rfl) (own_w hw 4 rfl) (own_w hw 17 rfl) (by decide) f193 (conS l Z a0 hw b185 (2 : Int32) (9223372036854775806 : Int64) _ n0 z189 c186 k186 [(.long p0), (.long (0 : Int64)), (.long (0 : Int64))] f192 V189 1 ⟨by decide, by decide⟩ rfl (Nat.le_of_ble_eq_true rfl) g_c186) e189 pd1 [(.int (2 : Int32)), (.long (9223372036854775806 : Int64))] [] rfl rfl rfl (Nat.le_of_eq rfl) (by decide) (by decide) (by rw [hml]; rfl) (hb hby at_119) (by decide) (by decide) rfl ?_
        intro v191 T191 L191 X191 q191
        obtain ⟨rfl, M191, K191, V191⟩ := q191
        obtain ⟨h191, e191⟩ : ∃ z, z = T191.heap := ⟨_, rfl⟩
        rw [← e191] at K191 V191
        have e191 := e191.symm
        have z191 : n0 ≤ h191.size := Nat.le_trans z189 K191.1
        have V191 : Arv Z h191 c186 k186 .long 3 [(.long p0), (.long (9223372036854775806 : Int64)), (.long (0 : Int64))] (.long 0) := V191
        have N191 := Fr.app N189 M191
        show own_WP _ _ _ _ _ _ _ (T191.setTop (mkF m 122 #[.val (.long p0), .second, .val (.long p1), .second, .val (.long p2), .second, .val (.int p3), .val (.int (2 : Int32)), .val (.int v119), .val (.ref b120), .val (.ref b185)] []))
        refine own_aload (pc' := 124) X191 hx (hb hby at_122) rfl rfl rfl ?_
        refine own_iconst (pc' := 125) X191 hx (3 : Int32) (hb hby at_124) rfl rfl ?_
        refine own_aload (pc' := 127) X191 hx (hb hby at_125) rfl rfl rfl ?_
        refine own_iconst (pc' := 128) X191 hx (2 : Int32) (hb hby at_127) rfl rfl ?_
        have f194 := (f190.keep K191 (ninS ne_b120_c186 nin0))
        refine own_laload (pc' := 129) (v := (.long p2)) X191 hx hZ e191 f194 ⟨by decide, by decide⟩ rfl (hb hby at_128) rfl ?_
        have f196 := (f192.keep K191 (ninS ne_b185_c186 nin0))
        have f197 := (f193.keep K191)
        refine own_callV (pc' := 132) (W := 0) (y := (⟨"com/example/eventual_leader/eventualleader/election/RecoveryCounts", "set", "(IJ)V"⟩ : MethodName)) (z := (⟨"com/example/eventual_leader/eventualleader/election/RecoveryCounts", "set", "(IJ)V"⟩ : MethodName)) X191 hx hZ hown (own_w hw 13 rfl) (own_w hw 14 rfl) (notFace_of_selects (args := #[]) (mvT hZ (own_w hw 16 rfl))) (own_w hw 16 rfl) (own_w hw 15 rfl) (own_w hw 4 rfl) (own_w hw 17 rfl) (by decide) f197 (conS l Z a0 hw b185 (3 : Int32) p2 _ n0 z191 c186 k186 [(.long p0), (.long (9223372036854775806 : Int64)), (.long (0 : Int64))] f196 V191 2 ⟨by decide, by decide⟩ rfl (Nat.le_of_ble_eq_true rfl) g_c186) e191 pd1 [(.int (3 : Int32)), (.long p2)] [] rfl rfl rfl (Nat.le_of_eq rfl) (by decide) (by decide) (by rw [hml]; rfl) (hb hby at_129) (by decide) (by decide) rfl ?_
        intro v195 T195 L195 X195 q195
        obtain ⟨rfl, M195, K195, V195⟩ := q195
        obtain ⟨h195, e195⟩ : ∃ z, z = T195.heap := ⟨_, rfl⟩
        rw [← e195] at K195 V195
        have e195 := e195.symm
        have z195 : n0 ≤ h195.size := Nat.le_trans z191 K195.1
        have V195 : Arv Z h195 c186 k186 .long 3 [(.long p0), (.long (9223372036854775806 : Int64)), (.long p2)] (.long 0) := V195
        have N195 := Fr.app N191 M195
        show own_WP _ _ _ _ _ _ _ (T195.setTop (mkF m 132 #[.val (.long p0), .second, .val (.long p1), .second, .val (.long p2), .second, .val (.int p3), .val (.int (2 : Int32)), .val (.int v119), .val (.ref b120), .val (.ref b185)] []))
        refine own_aload (pc' := 134) X195 hx (hb hby at_132) rfl rfl rfl ?_
        refine own_iload (pc' := 136) X195 hx (hb hby at_134) rfl rfl ?_
        have f199 := (f196.keep K195 (ninS ne_b185_c186 nin0))
        have f200 := (f197.keep K195)
        refine own_callV (pc' := 139) (W := 0) (y := (⟨"com/example/eventual_leader/eventualleader/election/RecoveryCounts", "increment", "(I)V"⟩ : MethodName)) (z := (⟨"com/example/eventual_leader/eventualleader/election/RecoveryCounts", "increment", "(I)V"⟩ : MethodName)) X195 hx hZ hown (own_w hw 18 rfl) (own_w hw 19 rfl) (notFace_of_selects (args := #[]) (mvT hZ (own_w hw 21 rfl))) (own_w hw 21 rfl) (own_w hw 20 rfl) (own_w hw 4 rfl) (own_w hw 22 rfl) (by decide) f200 (conN l Z a0 hw b185 (2 : Int32) _ n0 z195 c186 k186 [(.long p0), (.long (9223372036854775806 : Int64)), (.long p2)] f199 V195 1 ⟨by decide, by decide⟩ rfl (Nat.le_of_ble_eq_true rfl) g_c186 (9223372036854775806 : Int64) rfl) e195 pd0 [(.int (2 : Int32))] [] rfl rfl rfl (Nat.le_of_eq rfl) (by decide) (by decide) (by rw [hml]; rfl) (hb hby at_136) (by decide) (by decide) rfl ?_
        intro v198 T198 L198 X198 q198
        obtain ⟨rfl, M198, K198, V198⟩ := q198
        obtain ⟨h198, e198⟩ : ∃ z, z = T198.heap := ⟨_, rfl⟩
        rw [← e198] at K198 V198
        have e198 := e198.symm
        have z198 : n0 ≤ h198.size := Nat.le_trans z195 K198.1
        have N198 := Fr.app N195 M198
        have hlt : (9223372036854775806 : Int64) < (9223372036854775807 : Int64) := by decide
        rw [if_pos hlt] at V198
        have V198 : Arv Z h198 c186 k186 .long 3 [(.long p0), (.long ((9223372036854775806 : Int64) + 1)), (.long p2)] (.long 0) := V198
        show own_WP _ _ _ _ _ _ _ (T198.setTop (mkF m 139 #[.val (.long p0), .second, .val (.long p1), .second, .val (.long p2), .second, .val (.int p3), .val (.int (2 : Int32)), .val (.int v119), .val (.ref b120), .val (.ref b185)] []))
        refine own_aload (pc' := 141) X198 hx (hb hby at_139) rfl rfl rfl ?_
        refine own_iconst (pc' := 142) X198 hx (1 : Int32) (hb hby at_141) rfl rfl ?_
        have f202 := (f199.keep K198 (ninS ne_b185_c186 nin0))
        have f203 := (f200.keep K198)
        refine own_callV (pc' := 145) (W := 0) (y := (⟨"com/example/eventual_leader/eventualleader/election/RecoveryCounts", "of", "(I)J"⟩ : MethodName)) (z := (⟨"com/example/eventual_leader/eventualleader/election/RecoveryCounts", "of", "(I)J"⟩ : MethodName)) X198 hx hZ hown (own_w hw 24 rfl) (own_w hw 25 rfl) (notFace_of_selects (args := #[]) (mvT hZ (own_w hw 27 rfl))) (own_w hw 27 rfl) (own_w hw 26 rfl) (own_w hw 4 rfl) (own_w hw 28 rfl) (by decide) f203 (conO l Z a0 hw b185 (1 : Int32) _ c186 k186 [(.long p0), (.long ((9223372036854775806 : Int64) + 1)), (.long p2)] f202 V198 0 ⟨by decide, by decide⟩ rfl p0 rfl) e198 pd2 [(.int (1 : Int32))] [] rfl rfl rfl (Nat.le_of_eq rfl) (by decide) (by decide) (by rw [hml]; rfl) (hb hby at_142) (by decide) (by decide) rfl ?_
        intro v201 T201 L201 X201 q201
        obtain ⟨r201, rfl, hr201, rfl, e201⟩ := q201
        have N201 := Fr.app N198 (Fr.nil n0)
        show own_WP _ _ _ _ _ _ _ (T201.setTop (mkF m 145 #[.val (.long p0), .second, .val (.long p1), .second, .val (.long p2), .second, .val (.int p3), .val (.int (2 : Int32)), .val (.int v119), .val (.ref b120), .val (.ref b185)] [(.long r201)]))
        refine own_iconst (pc' := 146) X201 hx (1 : Int32) (hb hby at_145) rfl rfl ?_
        refine own_iload (pc' := 148) X201 hx (hb hby at_146) rfl rfl ?_
        refine own_aload (pc' := 150) X201 hx (hb hby at_148) rfl rfl rfl ?_
        refine own_iconst (pc' := 151) X201 hx (0 : Int32) (hb hby at_150) rfl rfl ?_
        have f204 := ((f194.keep K195 (ninS ne_b120_c186 nin0)).keep K198 (ninS ne_b120_c186 nin0))
        refine own_laload (pc' := 152) (v := (.long p0)) X201 hx hZ e201 f204 ⟨by decide, by decide⟩ rfl (hb hby at_151) rfl ?_
        refine own_callS (pc' := 155) (W := 2) (y := (⟨"com/example/eventual_leader/eventualleader/election/RecoveryCountsIncrementPinLaw", "expect", "(IIJ)J"⟩ : MethodName)) X201 hx hZ hown (own_w hw 29 rfl) (own_w hw 30 rfl) (own_w hw 31 rfl) (own_w hw 32 rfl) (by decide) (conX l Z a0 hw (1 : Int32) (2 : Int32) p0 _ ) e201 pd3 [(.int (1 : Int32)), (.int (2 : Int32)), (.long p0)] [(.long r201)] rfl rfl rfl (Nat.le_of_eq rfl) (by decide) (by decide) (by rw [hml]; rfl) (hb hby at_152) (by decide) (by decide) rfl ?_
        intro v205 T205 L205 X205 q205
        obtain ⟨r205, rfl, hr205, rfl, e205⟩ := q205
        have N205 := Fr.app N201 (Fr.nil n0)
        show own_WP _ _ _ _ _ _ _ (T205.setTop (mkF m 155 #[.val (.long p0), .second, .val (.long p1), .second, .val (.long p2), .second, .val (.int p3), .val (.int (2 : Int32)), .val (.int v119), .val (.ref b120), .val (.ref b185)] [(.long r205), (.long r201)]))
        refine own_lcmp (pc' := 156) X205 hx (hb hby at_155) rfl ?_
        refine own_ifl_ne (pt := 203) (pf := 159) X205 hx (hb hby at_156) rfl (by decide) rfl (fun hc156 => absurd (by rw [hr201, hr205]; exact (own_exN (by decide)).symm) hc156) (fun hc156 => ?_)
        refine own_aload (pc' := 161) X205 hx (hb hby at_159) rfl rfl rfl ?_
        refine own_iconst (pc' := 162) X205 hx (2 : Int32) (hb hby at_161) rfl rfl ?_
        refine own_callV (pc' := 165) (W := 0) (y := (⟨"com/example/eventual_leader/eventualleader/election/RecoveryCounts", "of", "(I)J"⟩ : MethodName)) (z := (⟨"com/example/eventual_leader/eventualleader/election/RecoveryCounts", "of", "(I)J"⟩ : MethodName)) X205 hx hZ hown (own_w hw 24 rfl) (own_w hw 25 rfl) (notFace_of_selects (args := #[]) (mvT hZ (own_w hw 27 rfl))) (own_w hw 27 rfl) (own_w hw 26 rfl) (own_w hw 4 rfl) (own_w hw 28 rfl) (by decide) f203 (conO l Z a0 hw b185 (2 : Int32) _ c186 k186 [(.long p0), (.long ((9223372036854775806 : Int64) + 1)), (.long p2)] f202 V198 1 ⟨by decide, by decide⟩ rfl ((9223372036854775806 : Int64) + 1) rfl) e205 pd2 [(.int (2 : Int32))] [] rfl rfl rfl (Nat.le_of_eq rfl) (by decide) (by decide) (by rw [hml]; rfl) (hb hby at_162) (by decide) (by decide) rfl ?_
        intro v206 T206 L206 X206 q206
        obtain ⟨r206, rfl, hr206, rfl, e206⟩ := q206
        have N206 := Fr.app N205 (Fr.nil n0)
        show own_WP _ _ _ _ _ _ _ (T206.setTop (mkF m 165 #[.val (.long p0), .second, .val (.long p1), .second, .val (.long p2), .second, .val (.int p3), .val (.int (2 : Int32)), .val (.int v119), .val (.ref b120), .val (.ref b185)] [(.long r206)]))
        refine own_iconst (pc' := 166) X206 hx (2 : Int32) (hb hby at_165) rfl rfl ?_
        refine own_iload (pc' := 168) X206 hx (hb hby at_166) rfl rfl ?_
        refine own_aload (pc' := 170) X206 hx (hb hby at_168) rfl rfl rfl ?_
        refine own_iconst (pc' := 171) X206 hx (1 : Int32) (hb hby at_170) rfl rfl ?_
        refine own_laload (pc' := 172) (v := (.long (9223372036854775806 : Int64))) X206 hx hZ e206 f204 ⟨by decide, by decide⟩ rfl (hb hby at_171) rfl ?_
        refine own_callS (pc' := 175) (W := 2) (y := (⟨"com/example/eventual_leader/eventualleader/election/RecoveryCountsIncrementPinLaw", "expect", "(IIJ)J"⟩ : MethodName)) X206 hx hZ hown (own_w hw 29 rfl) (own_w hw 30 rfl) (own_w hw 31 rfl) (own_w hw 32 rfl) (by decide) (conX l Z a0 hw (2 : Int32) (2 : Int32) (9223372036854775806 : Int64) _ ) e206 pd3 [(.int (2 : Int32)), (.int (2 : Int32)), (.long (9223372036854775806 : Int64))] [(.long r206)] rfl rfl rfl (Nat.le_of_eq rfl) (by decide) (by decide) (by rw [hml]; rfl) (hb hby at_172) (by decide) (by decide) rfl ?_
        intro v207 T207 L207 X207 q207
        obtain ⟨r207, rfl, hr207, rfl, e207⟩ := q207
        have N207 := Fr.app N206 (Fr.nil n0)
        show own_WP _ _ _ _ _ _ _ (T207.setTop (mkF m 175 #[.val (.long p0), .second, .val (.long p1), .second, .val (.long p2), .second, .val (.int p3), .val (.int (2 : Int32)), .val (.int v119), .val (.ref b120), .val (.ref b185)] [(.long r207), (.long r206)]))
        refine own_lcmp (pc' := 176) X207 hx (hb hby at_175) rfl ?_
        refine own_ifl_ne (pt := 203) (pf := 179) X207 hx (hb hby at_176) rfl (by decide) rfl (fun hc176 => absurd (by rw [hr206, hr207]; exact (own_exY hlt).symm) hc176) (fun hc176 => ?_)
        refine own_aload (pc' := 181) X207 hx (hb hby at_179) rfl rfl rfl ?_
        refine own_iconst (pc' := 182) X207 hx (3 : Int32) (hb hby at_181) rfl rfl ?_
        refine own_callV (pc' := 185) (W := 0) (y := (⟨"com/example/eventual_leader/eventualleader/election/RecoveryCounts", "of", "(I)J"⟩ : MethodName)) (z := (⟨"com/example/eventual_leader/eventualleader/election/RecoveryCounts", "of", "(I)J"⟩ : MethodName)) X207 hx hZ hown (own_w hw 24 rfl) (own_w hw 25 rfl) (notFace_of_selects (args := #[]) (mvT hZ (own_w hw 27 rfl))) (own_w hw 27 rfl) (own_w hw 26 rfl) (own_w hw 4 rfl) (own_w hw 28 rfl) (by decide) f203 (conO l Z a0 hw b185 (3 : Int32) _ c186 k186 [(.long p0), (.long ((9223372036854775806 : Int64) + 1)), (.long p2)] f202 V198 2 ⟨by decide, by decide⟩ rfl p2 rfl) e207 pd2 [(.int (3 : Int32))] [] rfl rfl rfl (Nat.le_of_eq rfl) (by decide) (by decide) (by rw [hml]; rfl) (hb hby at_182) (by decide) (by decide) rfl ?_
        intro v208 T208 L208 X208 q208
        obtain ⟨r208, rfl, hr208, rfl, e208⟩ := q208
        have N208 := Fr.app N207 (Fr.nil n0)
        show own_WP _ _ _ _ _ _ _ (T208.setTop (mkF m 185 #[.val (.long p0), .second, .val (.long p1), .second, .val (.long p2), .second, .val (.int p3), .val (.int (2 : Int32)), .val (.int v119), .val (.ref b120), .val (.ref b185)] [(.long r208)]))
        refine own_iconst (pc' := 186) X208 hx (3 : Int32) (hb hby at_185) rfl rfl ?_
        refine own_iload (pc' := 188) X208 hx (hb hby at_186) rfl rfl ?_
        refine own_aload (pc' := 190) X208 hx (hb hby at_188) rfl rfl rfl ?_
        refine own_iconst (pc' := 191) X208 hx (2 : Int32) (hb hby at_190) rfl rfl ?_
        refine own_laload (pc' := 192) (v := (.long p2)) X208 hx hZ e208 f204 ⟨by decide, by decide⟩ rfl (hb hby at_191) rfl ?_
        refine own_callS (pc' := 195) (W := 2) (y := (⟨"com/example/eventual_leader/eventualleader/election/RecoveryCountsIncrementPinLaw", "expect", "(IIJ)J"⟩ : MethodName)) X208 hx hZ hown (own_w hw 29 rfl) (own_w hw 30 rfl) (own_w hw 31 rfl) (own_w hw 32 rfl) (by decide) (conX l Z a0 hw (3 : Int32) (2 : Int32) p2 _ ) e208 pd3 [(.int (3 : Int32)), (.int (2 : Int32)), (.long p2)] [(.long r208)] rfl rfl rfl (Nat.le_of_eq rfl) (by decide) (by decide) (by rw [hml]; rfl) (hb hby at_192) (by decide) (by decide) rfl ?_
        intro v209 T209 L209 X209 q209
        obtain ⟨r209, rfl, hr209, rfl, e209⟩ := q209
        have N209 := Fr.app N208 (Fr.nil n0)
        show own_WP _ _ _ _ _ _ _ (T209.setTop (mkF m 195 #[.val (.long p0), .second, .val (.long p1), .second, .val (.long p2), .second, .val (.int p3), .val (.int (2 : Int32)), .val (.int v119), .val (.ref b120), .val (.ref b185)] [(.long r209), (.long r208)]))
        refine own_lcmp (pc' := 196) X209 hx (hb hby at_195) rfl ?_
        refine own_ifl_ne (pt := 203) (pf := 199) X209 hx (hb hby at_196) rfl (by decide) rfl (fun hc196 => absurd (by rw [hr208, hr209]; exact (own_exN (by decide)).symm) hc196) (fun hc196 => ?_)
        refine own_iconst (pc' := 200) X209 hx (1 : Int32) (hb hby at_199) rfl rfl ?_
        refine own_goto (pc' := 204) X209 hx (hb hby at_200) (by decide) rfl ?_
        refine own_retN X209 hx hlk (t := .boolean) (by decide) hret (hb hby at_204) (by decide) (by decide) ?_
        exact ⟨rfl, N209⟩
    · skip
      refine own_aload (pc' := 46) X123 hx (hb hby at_44) rfl rfl rfl ?_
      refine own_iload (pc' := 48) X123 hx (hb hby at_46) rfl rfl ?_
      refine own_iconst (pc' := 49) X123 hx (1 : Int32) (hb hby at_48) rfl rfl ?_
      refine own_isub (pc' := 50) X123 hx (hb hby at_49) rfl ?_
      show own_WP _ _ _ _ _ _ _ (T123.setTop (mkF m 50 #[.val (.long p0), .second, .val (.long p1), .second, .val (.long p2), .second, .val (.int p3), .val (.int (2 : Int32)), .val (.int v119), .val (.ref b120), .unset] [(.int (1 : Int32)), (.ref b120)]))
      refine own_ldc2Long (pc' := 53) X123 hx hZ hown (own_w hw 33 rfl) (hb hby at_50) rfl ?_
      refine own_lastore (pc' := 54) X123 hx hZ e123 V123 ⟨by decide, by decide⟩ 1 rfl (Nat.le_of_ble_eq_true rfl) (hb hby at_53) rfl ?_
      intro T210 h210 X210 e210 W210 V210
      have z210 : n0 ≤ h210.size := Nat.le_trans z123 (Keep.of_wr W210).1
      have V210 : Arv Z h210 b120 k120 .long (3 : Int32) [(.long p0), (.long (9223372036854775807 : Int64)), (.long p2)] (.long (0 : Int64)) := V210
      have N210 := Fr.snoc X210 N123 g_b120
      refine own_goto (pc' := 92) X210 hx (hb hby at_54) (by decide) rfl ?_
      refine own_new (pc' := 95) X210 hx hZ hown (own_w hw 2 rfl) (own_w hw 3 rfl) (own_w hw 4 rfl) e210 (hb hby at_92) (by decide) (by decide) rfl ?_
      intro T211 h211 b211 g211 X211 e211 E211 A211 D211
      have ne_b120_b211 : b120 ≠ b211 := Nat.ne_of_lt (Nat.lt_of_lt_of_le V210.lt (Nat.le_of_eq g211.symm))
      have ne_b211_b120 := ne_b120_b211.symm
      have g_b211 : n0 ≤ b211 := Nat.le_trans z210 (Nat.le_of_eq g211.symm)
      have z211 : n0 ≤ h211.size := Nat.le_trans z210 E211.1
      have F211_counts : Fld Z h211 b211 "com/example/eventual_leader/eventualleader/election/RecoveryCounts" "counts" "[J" .null := D211 (Or.inr (own_w hw 12 rfl)) (ty := (.array .long)) (by decide +kernel)
      refine own_dup (pc' := 96) X211 hx (hb hby at_95) rfl rfl ?_
      refine own_iconst (pc' := 97) X211 hx (3 : Int32) (hb hby at_96) rfl rfl ?_
      refine own_callN (pc' := 100) (W := 1) (y := (⟨"com/example/eventual_leader/eventualleader/election/RecoveryCounts", "<init>", "(I)V"⟩ : MethodName)) X211 hx hZ rfl hown (own_w hw 5 rfl) (own_w hw 6 rfl) (own_w hw 4 rfl) (own_w hw 7 rfl) (by decide) (conI l Z a0 hw b211 _ n0 z211 A211 F211_counts g_b211) e211 pd0 b211 [(.int (3 : Int32))] [(.ref b211)] rfl rfl rfl (Nat.le_of_eq rfl) (by decide) (by decide) (by rw [hml]; rfl) (hb hby at_97) (by decide) (by decide) rfl ?_
      intro v212 T212 L212 X212 q212
      obtain ⟨c212, k212, rfl, M212, K212, E212q, F212q, V212, g_c212, s212⟩ := q212
      have f213 := (V210.ext E211)
      have ne_b120_c212 : b120 ≠ c212 := Nat.ne_of_lt (Nat.lt_of_lt_of_le f213.lt s212)
      have ne_c212_b120 := ne_b120_c212.symm
      have ne_b211_c212 : b211 ≠ c212 := Nat.ne_of_lt (Nat.lt_of_lt_of_le A211.lt s212)
      have ne_c212_b211 := ne_b211_c212.symm
      obtain ⟨h212, e212⟩ : ∃ z, z = T212.heap := ⟨_, rfl⟩
      rw [← e212] at K212 E212q F212q V212
      have e212 := e212.symm
      have z212 : n0 ≤ h212.size := Nat.le_trans z211 K212.1
      have N212 := Fr.app N210 M212
      show own_WP _ _ _ _ _ _ _ (T212.setTop (mkF m 100 #[.val (.long p0), .second, .val (.long p1), .second, .val (.long p2), .second, .val (.int p3), .val (.int (2 : Int32)), .val (.int v119), .val (.ref b120), .unset] [(.ref b211)]))
      refine own_astore (pc' := 102) (l' := #[.val (.long p0), .second, .val (.long p1), .second, .val (.long p2), .second, .val (.int p3), .val (.int (2 : Int32)), .val (.int v119), .val (.ref b120), .val (.ref b211)]) X212 hx (hb hby at_100) rfl rfl rfl ?_
      refine own_aload (pc' := 104) X212 hx (hb hby at_102) rfl rfl rfl ?_
      refine own_iconst (pc' := 105) X212 hx (1 : Int32) (hb hby at_104) rfl rfl ?_
      refine own_aload (pc' := 107) X212 hx (hb hby at_105) rfl rfl rfl ?_
      refine own_iconst (pc' := 108) X212 hx (0 : Int32) (hb hby at_107) rfl rfl ?_
      have f214 := (f213.keep K212 (ninS ne_b120_b211 nin0))
      refine own_laload (pc' := 109) (v := (.long p0)) X212 hx hZ e212 f214 ⟨by decide, by decide⟩ rfl (hb hby at_108) rfl ?_
      refine own_callV (pc' := 112) (W := 0) (y := (⟨"com/example/eventual_leader/eventualleader/election/RecoveryCounts", "set", "(IJ)V"⟩ : MethodName)) (z := (⟨"com/example/eventual_leader/eventualleader/election/RecoveryCounts", "set", "(IJ)V"⟩ : MethodName)) X212 hx hZ hown (own_w hw 13 rfl) (own_w hw 14 rfl) (notFace_of_selects (args := #[]) (mvT hZ (own_w hw 16 rfl))) (own_w hw 16 rfl) (own_w hw 15 rfl) (own_w hw 4 rfl) (own_w hw 17 rfl) (by decide) E212q (conS l Z a0 hw b211 (1 : Int32) p0 _ n0 z212 c212 k212 [(.long (0 : Int64)), (.long (0 : Int64)), (.long (0 : Int64))] F212q V212 0 ⟨by decide, by decide⟩ rfl (Nat.le_of_ble_eq_true rfl) g_c212) e212 pd1 [(.int (1 : Int32)), (.long p0)] [] rfl rfl rfl (Nat.le_of_eq rfl) (by decide) (by decide) (by rw [hml]; rfl) (hb hby at_109) (by decide) (by decide) rfl ?_
      intro v215 T215 L215 X215 q215
      obtain ⟨rfl, M215, K215, V215⟩ := q215
      obtain ⟨h215, e215⟩ : ∃ z, z = T215.heap := ⟨_, rfl⟩
      rw [← e215] at K215 V215
      have e215 := e215.symm
      have z215 : n0 ≤ h215.size := Nat.le_trans z212 K215.1
      have V215 : Arv Z h215 c212 k212 .long 3 [(.long p0), (.long (0 : Int64)), (.long (0 : Int64))] (.long 0) := V215
      have N215 := Fr.app N212 M215
      show own_WP _ _ _ _ _ _ _ (T215.setTop (mkF m 112 #[.val (.long p0), .second, .val (.long p1), .second, .val (.long p2), .second, .val (.int p3), .val (.int (2 : Int32)), .val (.int v119), .val (.ref b120), .val (.ref b211)] []))
      refine own_aload (pc' := 114) X215 hx (hb hby at_112) rfl rfl rfl ?_
      refine own_iconst (pc' := 115) X215 hx (2 : Int32) (hb hby at_114) rfl rfl ?_
      refine own_aload (pc' := 117) X215 hx (hb hby at_115) rfl rfl rfl ?_
      refine own_iconst (pc' := 118) X215 hx (1 : Int32) (hb hby at_117) rfl rfl ?_
      have f216 := (f214.keep K215 (ninS ne_b120_c212 nin0))
      refine own_laload (pc' := 119) (v := (.long (9223372036854775807 : Int64))) X215 hx hZ e215 f216 ⟨by decide, by decide⟩ rfl (hb hby at_118) rfl ?_
      have f218 := (F212q.keep K215 (ninS ne_b211_c212 nin0))
      have f219 := (E212q.keep K215)
      refine own_callV (pc' := 122) (W := 0) (y := (⟨"com/example/eventual_leader/eventualleader/election/RecoveryCounts", "set", "(IJ)V"⟩ : MethodName)) (z := (⟨"com/example/eventual_leader/eventualleader/election/RecoveryCounts", "set", "(IJ)V"⟩ : MethodName)) X215 hx hZ hown (own_w hw 13 rfl) (own_w hw 14 rfl) (notFace_of_selects (args := #[]) (mvT hZ (own_w hw 16 rfl))) (own_w hw 16 rfl) (own_w hw 15 rfl) (own_w hw 4 rfl) (own_w hw 17 rfl) (by decide) f219 (conS l Z a0 hw b211 (2 : Int32) (9223372036854775807 : Int64) _ n0 z215 c212 k212 [(.long p0), (.long (0 : Int64)), (.long (0 : Int64))] f218 V215 1 ⟨by decide, by decide⟩ rfl (Nat.le_of_ble_eq_true rfl) g_c212) e215 pd1 [(.int (2 : Int32)), (.long (9223372036854775807 : Int64))] [] rfl rfl rfl (Nat.le_of_eq rfl) (by decide) (by decide) (by rw [hml]; rfl) (hb hby at_119) (by decide) (by decide) rfl ?_
      intro v217 T217 L217 X217 q217
      obtain ⟨rfl, M217, K217, V217⟩ := q217
      obtain ⟨h217, e217⟩ : ∃ z, z = T217.heap := ⟨_, rfl⟩
      rw [← e217] at K217 V217
      have e217 := e217.symm
      have z217 : n0 ≤ h217.size := Nat.le_trans z215 K217.1
      have V217 : Arv Z h217 c212 k212 .long 3 [(.long p0), (.long (9223372036854775807 : Int64)), (.long (0 : Int64))] (.long 0) := V217
      have N217 := Fr.app N215 M217
      show own_WP _ _ _ _ _ _ _ (T217.setTop (mkF m 122 #[.val (.long p0), .second, .val (.long p1), .second, .val (.long p2), .second, .val (.int p3), .val (.int (2 : Int32)), .val (.int v119), .val (.ref b120), .val (.ref b211)] []))
      refine own_aload (pc' := 124) X217 hx (hb hby at_122) rfl rfl rfl ?_
      refine own_iconst (pc' := 125) X217 hx (3 : Int32) (hb hby at_124) rfl rfl ?_
      refine own_aload (pc' := 127) X217 hx (hb hby at_125) rfl rfl rfl ?_
      refine own_iconst (pc' := 128) X217 hx (2 : Int32) (hb hby at_127) rfl rfl ?_
      have f220 := (f216.keep K217 (ninS ne_b120_c212 nin0))
      refine own_laload (pc' := 129) (v := (.long p2)) X217 hx hZ e217 f220 ⟨by decide, by decide⟩ rfl (hb hby at_128) rfl ?_
      have f222 := (f218.keep K217 (ninS ne_b211_c212 nin0))
      have f223 := (f219.keep K217)
      refine own_callV (pc' := 132) (W := 0) (y := (⟨"com/example/eventual_leader/eventualleader/election/RecoveryCounts", "set", "(IJ)V"⟩ : MethodName)) (z := (⟨"com/example/eventual_leader/eventualleader/election/RecoveryCounts", "set", "(IJ)V"⟩ : MethodName)) X217 hx hZ hown (own_w hw 13 rfl) (own_w hw 14 rfl) (notFace_of_selects (args := #[]) (mvT hZ (own_w hw 16 rfl))) (own_w hw 16 rfl) (own_w hw 15 rfl) (own_w hw 4 rfl) (own_w hw 17 rfl) (by decide) f223 (conS l Z a0 hw b211 (3 : Int32) p2 _ n0 z217 c212 k212 [(.long p0), (.long (9223372036854775807 : Int64)), (.long (0 : Int64))] f222 V217 2 ⟨by decide, by decide⟩ rfl (Nat.le_of_ble_eq_true rfl) g_c212) e217 pd1 [(.int (3 : Int32)), (.long p2)] [] rfl rfl rfl (Nat.le_of_eq rfl) (by decide) (by decide) (by rw [hml]; rfl) (hb hby at_129) (by decide) (by decide) rfl ?_
      intro v221 T221 L221 X221 q221
      obtain ⟨rfl, M221, K221, V221⟩ := q221
      obtain ⟨h221, e221⟩ : ∃ z, z = T221.heap := ⟨_, rfl⟩
      rw [← e221] at K221 V221
      have e221 := e221.symm
      have z221 : n0 ≤ h221.size := Nat.le_trans z217 K221.1
      have V221 : Arv Z h221 c212 k212 .long 3 [(.long p0), (.long (9223372036854775807 : Int64)), (.long p2)] (.long 0) := V221
      have N221 := Fr.app N217 M221
      show own_WP _ _ _ _ _ _ _ (T221.setTop (mkF m 132 #[.val (.long p0), .second, .val (.long p1), .second, .val (.long p2), .second, .val (.int p3), .val (.int (2 : Int32)), .val (.int v119), .val (.ref b120), .val (.ref b211)] []))
      refine own_aload (pc' := 134) X221 hx (hb hby at_132) rfl rfl rfl ?_
      refine own_iload (pc' := 136) X221 hx (hb hby at_134) rfl rfl ?_
      have f225 := (f222.keep K221 (ninS ne_b211_c212 nin0))
      have f226 := (f223.keep K221)
      refine own_callV (pc' := 139) (W := 0) (y := (⟨"com/example/eventual_leader/eventualleader/election/RecoveryCounts", "increment", "(I)V"⟩ : MethodName)) (z := (⟨"com/example/eventual_leader/eventualleader/election/RecoveryCounts", "increment", "(I)V"⟩ : MethodName)) X221 hx hZ hown (own_w hw 18 rfl) (own_w hw 19 rfl) (notFace_of_selects (args := #[]) (mvT hZ (own_w hw 21 rfl))) (own_w hw 21 rfl) (own_w hw 20 rfl) (own_w hw 4 rfl) (own_w hw 22 rfl) (by decide) f226 (conN l Z a0 hw b211 (2 : Int32) _ n0 z221 c212 k212 [(.long p0), (.long (9223372036854775807 : Int64)), (.long p2)] f225 V221 1 ⟨by decide, by decide⟩ rfl (Nat.le_of_ble_eq_true rfl) g_c212 (9223372036854775807 : Int64) rfl) e221 pd0 [(.int (2 : Int32))] [] rfl rfl rfl (Nat.le_of_eq rfl) (by decide) (by decide) (by rw [hml]; rfl) (hb hby at_136) (by decide) (by decide) rfl ?_
      intro v224 T224 L224 X224 q224
      obtain ⟨rfl, M224, K224, V224⟩ := q224
      obtain ⟨h224, e224⟩ : ∃ z, z = T224.heap := ⟨_, rfl⟩
      rw [← e224] at K224 V224
      have e224 := e224.symm
      have z224 : n0 ≤ h224.size := Nat.le_trans z221 K224.1
      have N224 := Fr.app N221 M224
      have hlt : ¬ (9223372036854775807 : Int64) < (9223372036854775807 : Int64) := by decide
      rw [if_neg hlt] at V224
      have V224 : Arv Z h224 c212 k212 .long 3 [(.long p0), (.long (9223372036854775807 : Int64)), (.long p2)] (.long 0) := V224
      show own_WP _ _ _ _ _ _ _ (T224.setTop (mkF m 139 #[.val (.long p0), .second, .val (.long p1), .second, .val (.long p2), .second, .val (.int p3), .val (.int (2 : Int32)), .val (.int v119), .val (.ref b120), .val (.ref b211)] []))
      refine own_aload (pc' := 141) X224 hx (hb hby at_139) rfl rfl rfl ?_
      refine own_iconst (pc' := 142) X224 hx (1 : Int32) (hb hby at_141) rfl rfl ?_
      have f228 := (f225.keep K224 (ninS ne_b211_c212 nin0))
      have f229 := (f226.keep K224)
      refine own_callV (pc' := 145) (W := 0) (y := (⟨"com/example/eventual_leader/eventualleader/election/RecoveryCounts", "of", "(I)J"⟩ : MethodName)) (z := (⟨"com/example/eventual_leader/eventualleader/election/RecoveryCounts", "of", "(I)J"⟩ : MethodName)) X224 hx hZ hown (own_w hw 24 rfl) (own_w hw 25 rfl) (notFace_of_selects (args := #[]) (mvT hZ (own_w hw 27 rfl))) (own_w hw 27 rfl) (own_w hw 26 rfl) (own_w hw 4 rfl) (own_w hw 28 rfl) (by decide) f229 (conO l Z a0 hw b211 (1 : Int32) _ c212 k212 [(.long p0), (.long (9223372036854775807 : Int64)), (.long p2)] f228 V224 0 ⟨by decide, by decide⟩ rfl p0 rfl) e224 pd2 [(.int (1 : Int32))] [] rfl rfl rfl (Nat.le_of_eq rfl) (by decide) (by decide) (by rw [hml]; rfl) (hb hby at_142) (by decide) (by decide) rfl ?_
      intro v227 T227 L227 X227 q227
      obtain ⟨r227, rfl, hr227, rfl, e227⟩ := q227
      have N227 := Fr.app N224 (Fr.nil n0)
      show own_WP _ _ _ _ _ _ _ (T227.setTop (mkF m 145 #[.val (.long p0), .second, .val (.long p1), .second, .val (.long p2), .second, .val (.int p3), .val (.int (2 : Int32)), .val (.int v119), .val (.ref b120), .val (.ref b211)] [(.long r227)]))
      refine own_iconst (pc' := 146) X227 hx (1 : Int32) (hb hby at_145) rfl rfl ?_
      refine own_iload (pc' := 148) X227 hx (hb hby at_146) rfl rfl ?_
      refine own_aload (pc' := 150) X227 hx (hb hby at_148) rfl rfl rfl ?_
      refine own_iconst (pc' := 151) X227 hx (0 : Int32) (hb hby at_150) rfl rfl ?_
      have f230 := ((f220.keep K221 (ninS ne_b120_c212 nin0)).keep K224 (ninS ne_b120_c212 nin0))
      refine own_laload (pc' := 152) (v := (.long p0)) X227 hx hZ e227 f230 ⟨by decide, by decide⟩ rfl (hb hby at_151) rfl ?_
      refine own_callS (pc' := 155) (W := 2) (y := (⟨"com/example/eventual_leader/eventualleader/election/RecoveryCountsIncrementPinLaw", "expect", "(IIJ)J"⟩ : MethodName)) X227 hx hZ hown (own_w hw 29 rfl) (own_w hw 30 rfl) (own_w hw 31 rfl) (own_w hw 32 rfl) (by decide) (conX l Z a0 hw (1 : Int32) (2 : Int32) p0 _ ) e227 pd3 [(.int (1 : Int32)), (.int (2 : Int32)), (.long p0)] [(.long r227)] rfl rfl rfl (Nat.le_of_eq rfl) (by decide) (by decide) (by rw [hml]; rfl) (hb hby at_152) (by decide) (by decide) rfl ?_
      intro v231 T231 L231 X231 q231
      obtain ⟨r231, rfl, hr231, rfl, e231⟩ := q231
      have N231 := Fr.app N227 (Fr.nil n0)
      show own_WP _ _ _ _ _ _ _ (T231.setTop (mkF m 155 #[.val (.long p0), .second, .val (.long p1), .second, .val (.long p2), .second, .val (.int p3), .val (.int (2 : Int32)), .val (.int v119), .val (.ref b120), .val (.ref b211)] [(.long r231), (.long r227)]))
      refine own_lcmp (pc' := 156) X231 hx (hb hby at_155) rfl ?_
      refine own_ifl_ne (pt := 203) (pf := 159) X231 hx (hb hby at_156) rfl (by decide) rfl (fun hc156 => absurd (by rw [hr227, hr231]; exact (own_exN (by decide)).symm) hc156) (fun hc156 => ?_)
      refine own_aload (pc' := 161) X231 hx (hb hby at_159) rfl rfl rfl ?_
      refine own_iconst (pc' := 162) X231 hx (2 : Int32) (hb hby at_161) rfl rfl ?_
      refine own_callV (pc' := 165) (W := 0) (y := (⟨"com/example/eventual_leader/eventualleader/election/RecoveryCounts", "of", "(I)J"⟩ : MethodName)) (z := (⟨"com/example/eventual_leader/eventualleader/election/RecoveryCounts", "of", "(I)J"⟩ : MethodName)) X231 hx hZ hown (own_w hw 24 rfl) (own_w hw 25 rfl) (notFace_of_selects (args := #[]) (mvT hZ (own_w hw 27 rfl))) (own_w hw 27 rfl) (own_w hw 26 rfl) (own_w hw 4 rfl) (own_w hw 28 rfl) (by decide) f229 (conO l Z a0 hw b211 (2 : Int32) _ c212 k212 [(.long p0), (.long (9223372036854775807 : Int64)), (.long p2)] f228 V224 1 ⟨by decide, by decide⟩ rfl (9223372036854775807 : Int64) rfl) e231 pd2 [(.int (2 : Int32))] [] rfl rfl rfl (Nat.le_of_eq rfl) (by decide) (by decide) (by rw [hml]; rfl) (hb hby at_162) (by decide) (by decide) rfl ?_
      intro v232 T232 L232 X232 q232
      obtain ⟨r232, rfl, hr232, rfl, e232⟩ := q232
      have N232 := Fr.app N231 (Fr.nil n0)
      show own_WP _ _ _ _ _ _ _ (T232.setTop (mkF m 165 #[.val (.long p0), .second, .val (.long p1), .second, .val (.long p2), .second, .val (.int p3), .val (.int (2 : Int32)), .val (.int v119), .val (.ref b120), .val (.ref b211)] [(.long r232)]))
      refine own_iconst (pc' := 166) X232 hx (2 : Int32) (hb hby at_165) rfl rfl ?_
      refine own_iload (pc' := 168) X232 hx (hb hby at_166) rfl rfl ?_
      refine own_aload (pc' := 170) X232 hx (hb hby at_168) rfl rfl rfl ?_
      refine own_iconst (pc' := 171) X232 hx (1 : Int32) (hb hby at_170) rfl rfl ?_
      refine own_laload (pc' := 172) (v := (.long (9223372036854775807 : Int64))) X232 hx hZ e232 f230 ⟨by decide, by decide⟩ rfl (hb hby at_171) rfl ?_
      refine own_callS (pc' := 175) (W := 2) (y := (⟨"com/example/eventual_leader/eventualleader/election/RecoveryCountsIncrementPinLaw", "expect", "(IIJ)J"⟩ : MethodName)) X232 hx hZ hown (own_w hw 29 rfl) (own_w hw 30 rfl) (own_w hw 31 rfl) (own_w hw 32 rfl) (by decide) (conX l Z a0 hw (2 : Int32) (2 : Int32) (9223372036854775807 : Int64) _ ) e232 pd3 [(.int (2 : Int32)), (.int (2 : Int32)), (.long (9223372036854775807 : Int64))] [(.long r232)] rfl rfl rfl (Nat.le_of_eq rfl) (by decide) (by decide) (by rw [hml]; rfl) (hb hby at_172) (by decide) (by decide) rfl ?_
      intro v233 T233 L233 X233 q233
      obtain ⟨r233, rfl, hr233, rfl, e233⟩ := q233
      have N233 := Fr.app N232 (Fr.nil n0)
      show own_WP _ _ _ _ _ _ _ (T233.setTop (mkF m 175 #[.val (.long p0), .second, .val (.long p1), .second, .val (.long p2), .second, .val (.int p3), .val (.int (2 : Int32)), .val (.int v119), .val (.ref b120), .val (.ref b211)] [(.long r233), (.long r232)]))
      refine own_lcmp (pc' := 176) X233 hx (hb hby at_175) rfl ?_
      refine own_ifl_ne (pt := 203) (pf := 179) X233 hx (hb hby at_176) rfl (by decide) rfl (fun hc176 => absurd (by rw [hr232, hr233]; exact (own_exM hlt).symm) hc176) (fun hc176 => ?_)
      refine own_aload (pc' := 181) X233 hx (hb hby at_179) rfl rfl rfl ?_
      refine own_iconst (pc' := 182) X233 hx (3 : Int32) (hb hby at_181) rfl rfl ?_
      refine own_callV (pc' := 185) (W := 0) (y := (⟨"com/example/eventual_leader/eventualleader/election/RecoveryCounts", "of", "(I)J"⟩ : MethodName)) (z := (⟨"com/example/eventual_leader/eventualleader/election/RecoveryCounts", "of", "(I)J"⟩ : MethodName)) X233 hx hZ hown (own_w hw 24 rfl) (own_w hw 25 rfl) (notFace_of_selects (args := #[]) (mvT hZ (own_w hw 27 rfl))) (own_w hw 27 rfl) (own_w hw 26 rfl) (own_w hw 4 rfl) (own_w hw 28 rfl) (by decide) f229 (conO l Z a0 hw b211 (3 : Int32) _ c212 k212 [(.long p0), (.long (9223372036854775807 : Int64)), (.long p2)] f228 V224 2 ⟨by decide, by decide⟩ rfl p2 rfl) e233 pd2 [(.int (3 : Int32))] [] rfl rfl rfl (Nat.le_of_eq rfl) (by decide) (by decide) (by rw [hml]; rfl) (hb hby at_182) (by decide) (by decide) rfl ?_
      intro v234 T234 L234 X234 q234
      obtain ⟨r234, rfl, hr234, rfl, e234⟩ := q234
      have N234 := Fr.app N233 (Fr.nil n0)
      show own_WP _ _ _ _ _ _ _ (T234.setTop (mkF m 185 #[.val (.long p0), .second, .val (.long p1), .second, .val (.long p2), .second, .val (.int p3), .val (.int (2 : Int32)), .val (.int v119), .val (.ref b120), .val (.ref b211)] [(.long r234)]))
      refine own_iconst (pc' := 186) X234 hx (3 : Int32) (hb hby at_185) rfl rfl ?_
      refine own_iload (pc' := 188) X234 hx (hb hby at_186) rfl rfl ?_
      refine own_aload (pc' := 190) X234 hx (hb hby at_188) rfl rfl rfl ?_
      refine own_iconst (pc' := 191) X234 hx (2 : Int32) (hb hby at_190) rfl rfl ?_
      refine own_laload (pc' := 192) (v := (.long p2)) X234 hx hZ e234 f230 ⟨by decide, by decide⟩ rfl (hb hby at_191) rfl ?_
      refine own_callS (pc' := 195) (W := 2) (y := (⟨"com/example/eventual_leader/eventualleader/election/RecoveryCountsIncrementPinLaw", "expect", "(IIJ)J"⟩ : MethodName)) X234 hx hZ hown (own_w hw 29 rfl) (own_w hw 30 rfl) (own_w hw 31 rfl) (own_w hw 32 rfl) (by decide) (conX l Z a0 hw (3 : Int32) (2 : Int32) p2 _ ) e234 pd3 [(.int (3 : Int32)), (.int (2 : Int32)), (.long p2)] [(.long r234)] rfl rfl rfl (Nat.le_of_eq rfl) (by decide) (by decide) (by rw [hml]; rfl) (hb hby at_192) (by decide) (by decide) rfl ?_
      intro v235 T235 L235 X235 q235
      obtain ⟨r235, rfl, hr235, rfl, e235⟩ := q235
      have N235 := Fr.app N234 (Fr.nil n0)
      show own_WP _ _ _ _ _ _ _ (T235.setTop (mkF m 195 #[.val (.long p0), .second, .val (.long p1), .second, .val (.long p2), .second, .val (.int p3), .val (.int (2 : Int32)), .val (.int v119), .val (.ref b120), .val (.ref b211)] [(.long r235), (.long r234)]))
      refine own_lcmp (pc' := 196) X235 hx (hb hby at_195) rfl ?_
      refine own_ifl_ne (pt := 203) (pf := 199) X235 hx (hb hby at_196) rfl (by decide) rfl (fun hc196 => absurd (by rw [hr234, hr235]; exact (own_exN (by decide)).symm) hc196) (fun hc196 => ?_)
      refine own_iconst (pc' := 200) X235 hx (1 : Int32) (hb hby at_199) rfl rfl ?_
      refine own_goto (pc' := 204) X235 hx (hb hby at_200) (by decide) rfl ?_
      refine own_retN X235 hx hlk (t := .boolean) (by decide) hret (hb hby at_204) (by decide) (by decide) ?_
      exact ⟨rfl, N235⟩
  · subst hid
    show own_WP _ _ _ _ _ _ _ (s₁.setTop (mkF m 11 #[.val (.long p0), .second, .val (.long p1), .second, .val (.long p2), .second, .val (.int p3), .val (.int (3 : Int32)), .unset, .unset, .unset] []))
    refine own_iload (pc' := 13) X0 hx (hb hby at_11) rfl rfl ?_
    refine own_bipush (pc' := 15) X0 hx (8 : Int32) (hb hby at_13) rfl rfl ?_
    refine own_iushr (pc' := 16) X0 hx (hb hby at_15) rfl ?_
    refine own_iconst (pc' := 17) X0 hx (3 : Int32) (hb hby at_16) rfl rfl ?_
    refine own_iand (pc' := 18) X0 hx (hb hby at_17) rfl ?_
    obtain ⟨v236, hv236⟩ : ∃ z : Int32, z = (((p3.toUInt32 >>> ((8 : Int32) &&& 31).toUInt32).toInt32) &&& (3 : Int32)) := ⟨_, rfl⟩
    refine own_istore (pc' := 20) (l' := #[.val (.long p0), .second, .val (.long p1), .second, .val (.long p2), .second, .val (.int p3), .val (.int (3 : Int32)), .val (.int v236), .unset, .unset]) X0 hx (hb hby at_18) hv236 rfl rfl ?_
    refine own_iconst (pc' := 21) X0 hx (3 : Int32) (hb hby at_20) rfl rfl ?_
    refine own_newP (pc' := 23) (cap := 3) X0 hx hZ (own_w hw 1 rfl) e0 (hb hby at_21) (by decide) (by decide) (by decide) (by decide) (by decide) rfl ?_
    intro T237 h237 k237 b237 g237 X237 e237 E237 A237
    have g_b237 : n0 ≤ b237 := Nat.le_trans Z0 (Nat.le_of_eq g237.symm)
    have z237 : n0 ≤ h237.size := Nat.le_trans Z0 E237.1
    have V237 : Arv Z h237 b237 k237 .long (3 : Int32) [(.long (0 : Int64)), (.long (0 : Int64)), (.long (0 : Int64))] (.long (0 : Int64)) := (Arv.new A237 (by decide)).pad (pad_rep [] (.long (0 : Int64)) 3)
    refine own_dup (pc' := 24) X237 hx (hb hby at_23) rfl rfl ?_
    refine own_iconst (pc' := 25) X237 hx (0 : Int32) (hb hby at_24) rfl rfl ?_
    refine own_lloadN (pc' := 26) X237 hx (hb hby at_25) rfl rfl ?_
    refine own_lastore (pc' := 27) X237 hx hZ e237 V237 ⟨by decide, by decide⟩ 0 rfl (Nat.le_of_ble_eq_true rfl) (hb hby at_26) rfl ?_
    intro T238 h238 X238 e238 W238 V238
    have z238 : n0 ≤ h238.size := Nat.le_trans z237 (Keep.of_wr W238).1
    have V238 : Arv Z h238 b237 k237 .long (3 : Int32) [(.long p0), (.long (0 : Int64)), (.long (0 : Int64))] (.long (0 : Int64)) := V238
    have N238 := Fr.snoc X238 N0 g_b237
    refine own_dup (pc' := 28) X238 hx (hb hby at_27) rfl rfl ?_
    refine own_iconst (pc' := 29) X238 hx (1 : Int32) (hb hby at_28) rfl rfl ?_
    refine own_lloadN (pc' := 30) X238 hx (hb hby at_29) rfl rfl ?_
    refine own_lastore (pc' := 31) X238 hx hZ e238 V238 ⟨by decide, by decide⟩ 1 rfl (Nat.le_of_ble_eq_true rfl) (hb hby at_30) rfl ?_
    intro T239 h239 X239 e239 W239 V239
    have z239 : n0 ≤ h239.size := Nat.le_trans z238 (Keep.of_wr W239).1
    have V239 : Arv Z h239 b237 k237 .long (3 : Int32) [(.long p0), (.long p1), (.long (0 : Int64))] (.long (0 : Int64)) := V239
    have N239 := Fr.snoc X239 N238 g_b237
    refine own_dup (pc' := 32) X239 hx (hb hby at_31) rfl rfl ?_
    refine own_iconst (pc' := 33) X239 hx (2 : Int32) (hb hby at_32) rfl rfl ?_
    refine own_lload (pc' := 35) X239 hx (hb hby at_33) rfl rfl ?_
    refine own_lastore (pc' := 36) X239 hx hZ e239 V239 ⟨by decide, by decide⟩ 2 rfl (Nat.le_of_ble_eq_true rfl) (hb hby at_35) rfl ?_
    intro T240 h240 X240 e240 W240 V240
    have z240 : n0 ≤ h240.size := Nat.le_trans z239 (Keep.of_wr W240).1
    have V240 : Arv Z h240 b237 k237 .long (3 : Int32) [(.long p0), (.long p1), (.long p2)] (.long (0 : Int64)) := V240
    have N240 := Fr.snoc X240 N239 g_b237
    refine own_astore (pc' := 38) (l' := #[.val (.long p0), .second, .val (.long p1), .second, .val (.long p2), .second, .val (.int p3), .val (.int (3 : Int32)), .val (.int v236), .val (.ref b237), .unset]) X240 hx (hb hby at_36) rfl rfl rfl ?_
    refine own_iload (pc' := 40) X240 hx (hb hby at_38) rfl rfl ?_
    refine own_iconst (pc' := 41) X240 hx (1 : Int32) (hb hby at_40) rfl rfl ?_
    refine own_icmp_ne (pt := 57) (pf := 44) X240 hx (hb hby at_41) rfl (by decide) rfl (fun hc41 => ?_) (fun hc41 => ?_)
    · skip
      refine own_iload (pc' := 59) X240 hx (hb hby at_57) rfl rfl ?_
      refine own_iconst (pc' := 60) X240 hx (2 : Int32) (hb hby at_59) rfl rfl ?_
      refine own_icmp_ne (pt := 76) (pf := 63) X240 hx (hb hby at_60) rfl (by decide) rfl (fun hc60 => ?_) (fun hc60 => ?_)
      · skip
        refine own_iload (pc' := 78) X240 hx (hb hby at_76) rfl rfl ?_
        refine own_iconst (pc' := 79) X240 hx (3 : Int32) (hb hby at_78) rfl rfl ?_
        refine own_icmp_ne (pt := 92) (pf := 82) X240 hx (hb hby at_79) rfl (by decide) rfl (fun hc79 => ?_) (fun hc79 => ?_)
        · skip
          refine own_new (pc' := 95) X240 hx hZ hown (own_w hw 2 rfl) (own_w hw 3 rfl) (own_w hw 4 rfl) e240 (hb hby at_92) (by decide) (by decide) rfl ?_
          intro T241 h241 b241 g241 X241 e241 E241 A241 D241
          have ne_b237_b241 : b237 ≠ b241 := Nat.ne_of_lt (Nat.lt_of_lt_of_le V240.lt (Nat.le_of_eq g241.symm))
          have ne_b241_b237 := ne_b237_b241.symm
          have g_b241 : n0 ≤ b241 := Nat.le_trans z240 (Nat.le_of_eq g241.symm)
          have z241 : n0 ≤ h241.size := Nat.le_trans z240 E241.1
          have F241_counts : Fld Z h241 b241 "com/example/eventual_leader/eventualleader/election/RecoveryCounts" "counts" "[J" .null := D241 (Or.inr (own_w hw 12 rfl)) (ty := (.array .long)) (by decide +kernel)
          refine own_dup (pc' := 96) X241 hx (hb hby at_95) rfl rfl ?_
          refine own_iconst (pc' := 97) X241 hx (3 : Int32) (hb hby at_96) rfl rfl ?_
          refine own_callN (pc' := 100) (W := 1) (y := (⟨"com/example/eventual_leader/eventualleader/election/RecoveryCounts", "<init>", "(I)V"⟩ : MethodName)) X241 hx hZ rfl hown (own_w hw 5 rfl) (own_w hw 6 rfl) (own_w hw 4 rfl) (own_w hw 7 rfl) (by decide) (conI l Z a0 hw b241 _ n0 z241 A241 F241_counts g_b241) e241 pd0 b241 [(.int (3 : Int32))] [(.ref b241)] rfl rfl rfl (Nat.le_of_eq rfl) (by decide) (by decide) (by rw [hml]; rfl) (hb hby at_97) (by decide) (by decide) rfl ?_
          intro v242 T242 L242 X242 q242
          obtain ⟨c242, k242, rfl, M242, K242, E242q, F242q, V242, g_c242, s242⟩ := q242
          have f243 := (V240.ext E241)
          have ne_b237_c242 : b237 ≠ c242 := Nat.ne_of_lt (Nat.lt_of_lt_of_le f243.lt s242)
          have ne_c242_b237 := ne_b237_c242.symm
          have ne_b241_c242 : b241 ≠ c242 := Nat.ne_of_lt (Nat.lt_of_lt_of_le A241.lt s242)
          have ne_c242_b241 := ne_b241_c242.symm
          obtain ⟨h242, e242⟩ : ∃ z, z = T242.heap := ⟨_, rfl⟩
          rw [← e242] at K242 E242q F242q V242
          have e242 := e242.symm
          have z242 : n0 ≤ h242.size := Nat.le_trans z241 K242.1
          have N242 := Fr.app N240 M242
          show own_WP _ _ _ _ _ _ _ (T242.setTop (mkF m 100 #[.val (.long p0), .second, .val (.long p1), .second, .val (.long p2), .second, .val (.int p3), .val (.int (3 : Int32)), .val (.int v236), .val (.ref b237), .unset] [(.ref b241)]))
          refine own_astore (pc' := 102) (l' := #[.val (.long p0), .second, .val (.long p1), .second, .val (.long p2), .second, .val (.int p3), .val (.int (3 : Int32)), .val (.int v236), .val (.ref b237), .val (.ref b241)]) X242 hx (hb hby at_100) rfl rfl rfl ?_
          refine own_aload (pc' := 104) X242 hx (hb hby at_102) rfl rfl rfl ?_
          refine own_iconst (pc' := 105) X242 hx (1 : Int32) (hb hby at_104) rfl rfl ?_
          refine own_aload (pc' := 107) X242 hx (hb hby at_105) rfl rfl rfl ?_
          refine own_iconst (pc' := 108) X242 hx (0 : Int32) (hb hby at_107) rfl rfl ?_
          have f244 := (f243.keep K242 (ninS ne_b237_b241 nin0))
          refine own_laload (pc' := 109) (v := (.long p0)) X242 hx hZ e242 f244 ⟨by decide, by decide⟩ rfl (hb hby at_108) rfl ?_
          refine own_callV (pc' := 112) (W := 0) (y := (⟨"com/example/eventual_leader/eventualleader/election/RecoveryCounts", "set", "(IJ)V"⟩ : MethodName)) (z := (⟨"com/example/eventual_leader/eventualleader/election/RecoveryCounts", "set", "(IJ)V"⟩ : MethodName)) X242 hx hZ hown (own_w hw 13 rfl) (own_w hw 14 rfl) (notFace_of_selects (args := #[]) (mvT hZ (own_w hw 16 rfl))) (own_w hw 16 rfl) (own_w hw 15 rfl) (own_w hw 4 rfl) (own_w hw 17 rfl) (by decide) E242q (conS l Z a0 hw b241 (1 : Int32) p0 _ n0 z242 c242 k242 [(.long (0 : Int64)), (.long (0 : Int64)), (.long (0 : Int64))] F242q V242 0 ⟨by decide, by decide⟩ rfl (Nat.le_of_ble_eq_true rfl) g_c242) e242 pd1 [(.int (1 : Int32)), (.long p0)] [] rfl rfl rfl (Nat.le_of_eq rfl) (by decide) (by decide) (by rw [hml]; rfl) (hb hby at_109) (by decide) (by decide) rfl ?_
          intro v245 T245 L245 X245 q245
          obtain ⟨rfl, M245, K245, V245⟩ := q245
          obtain ⟨h245, e245⟩ : ∃ z, z = T245.heap := ⟨_, rfl⟩
          rw [← e245] at K245 V245
          have e245 := e245.symm
          have z245 : n0 ≤ h245.size := Nat.le_trans z242 K245.1
          have V245 : Arv Z h245 c242 k242 .long 3 [(.long p0), (.long (0 : Int64)), (.long (0 : Int64))] (.long 0) := V245
          have N245 := Fr.app N242 M245
          show own_WP _ _ _ _ _ _ _ (T245.setTop (mkF m 112 #[.val (.long p0), .second, .val (.long p1), .second, .val (.long p2), .second, .val (.int p3), .val (.int (3 : Int32)), .val (.int v236), .val (.ref b237), .val (.ref b241)] []))
          refine own_aload (pc' := 114) X245 hx (hb hby at_112) rfl rfl rfl ?_
          refine own_iconst (pc' := 115) X245 hx (2 : Int32) (hb hby at_114) rfl rfl ?_
          refine own_aload (pc' := 117) X245 hx (hb hby at_115) rfl rfl rfl ?_
          refine own_iconst (pc' := 118) X245 hx (1 : Int32) (hb hby at_117) rfl rfl ?_
          have f246 := (f244.keep K245 (ninS ne_b237_c242 nin0))
          refine own_laload (pc' := 119) (v := (.long p1)) X245 hx hZ e245 f246 ⟨by decide, by decide⟩ rfl (hb hby at_118) rfl ?_
          have f248 := (F242q.keep K245 (ninS ne_b241_c242 nin0))
          have f249 := (E242q.keep K245)
          refine own_callV (pc' := 122) (W := 0) (y := (⟨"com/example/eventual_leader/eventualleader/election/RecoveryCounts", "set", "(IJ)V"⟩ : MethodName)) (z := (⟨"com/example/eventual_leader/eventualleader/election/RecoveryCounts", "set", "(IJ)V"⟩ : MethodName)) X245 hx hZ hown (own_w hw 13 rfl) (own_w hw 14 rfl) (notFace_of_selects (args := #[]) (mvT hZ (own_w hw 16 rfl))) (own_w hw 16 rfl) (own_w hw 15 rfl) (own_w hw 4 rfl) (own_w hw 17 rfl) (by decide) f249 (conS l Z a0 hw b241 (2 : Int32) p1 _ n0 z245 c242 k242 [(.long p0), (.long (0 : Int64)), (.long (0 : Int64))] f248 V245 1 ⟨by decide, by decide⟩ rfl (Nat.le_of_ble_eq_true rfl) g_c242) e245 pd1 [(.int (2 : Int32)), (.long p1)] [] rfl rfl rfl (Nat.le_of_eq rfl) (by decide) (by decide) (by rw [hml]; rfl) (hb hby at_119) (by decide) (by decide) rfl ?_
          intro v247 T247 L247 X247 q247
          obtain ⟨rfl, M247, K247, V247⟩ := q247
          obtain ⟨h247, e247⟩ : ∃ z, z = T247.heap := ⟨_, rfl⟩
          rw [← e247] at K247 V247
          have e247 := e247.symm
          have z247 : n0 ≤ h247.size := Nat.le_trans z245 K247.1
          have V247 : Arv Z h247 c242 k242 .long 3 [(.long p0), (.long p1), (.long (0 : Int64))] (.long 0) := V247
          have N247 := Fr.app N245 M247
          show own_WP _ _ _ _ _ _ _ (T247.setTop (mkF m 122 #[.val (.long p0), .second, .val (.long p1), .second, .val (.long p2), .second, .val (.int p3), .val (.int (3 : Int32)), .val (.int v236), .val (.ref b237), .val (.ref b241)] []))
          refine own_aload (pc' := 124) X247 hx (hb hby at_122) rfl rfl rfl ?_
          refine own_iconst (pc' := 125) X247 hx (3 : Int32) (hb hby at_124) rfl rfl ?_
          refine own_aload (pc' := 127) X247 hx (hb hby at_125) rfl rfl rfl ?_
          refine own_iconst (pc' := 128) X247 hx (2 : Int32) (hb hby at_127) rfl rfl ?_
          have f250 := (f246.keep K247 (ninS ne_b237_c242 nin0))
          refine own_laload (pc' := 129) (v := (.long p2)) X247 hx hZ e247 f250 ⟨by decide, by decide⟩ rfl (hb hby at_128) rfl ?_
          have f252 := (f248.keep K247 (ninS ne_b241_c242 nin0))
          have f253 := (f249.keep K247)
          refine own_callV (pc' := 132) (W := 0) (y := (⟨"com/example/eventual_leader/eventualleader/election/RecoveryCounts", "set", "(IJ)V"⟩ : MethodName)) (z := (⟨"com/example/eventual_leader/eventualleader/election/RecoveryCounts", "set", "(IJ)V"⟩ : MethodName)) X247 hx hZ hown (own_w hw 13 rfl) (own_w hw 14 rfl) (notFace_of_selects (args := #[]) (mvT hZ (own_w hw 16 rfl))) (own_w hw 16 rfl) (own_w hw 15 rfl) (own_w hw 4 rfl) (own_w hw 17 rfl) (by decide) f253 (conS l Z a0 hw b241 (3 : Int32) p2 _ n0 z247 c242 k242 [(.long p0), (.long p1), (.long (0 : Int64))] f252 V247 2 ⟨by decide, by decide⟩ rfl (Nat.le_of_ble_eq_true rfl) g_c242) e247 pd1 [(.int (3 : Int32)), (.long p2)] [] rfl rfl rfl (Nat.le_of_eq rfl) (by decide) (by decide) (by rw [hml]; rfl) (hb hby at_129) (by decide) (by decide) rfl ?_
          intro v251 T251 L251 X251 q251
          obtain ⟨rfl, M251, K251, V251⟩ := q251
          obtain ⟨h251, e251⟩ : ∃ z, z = T251.heap := ⟨_, rfl⟩
          rw [← e251] at K251 V251
          have e251 := e251.symm
          have z251 : n0 ≤ h251.size := Nat.le_trans z247 K251.1
          have V251 : Arv Z h251 c242 k242 .long 3 [(.long p0), (.long p1), (.long p2)] (.long 0) := V251
          have N251 := Fr.app N247 M251
          show own_WP _ _ _ _ _ _ _ (T251.setTop (mkF m 132 #[.val (.long p0), .second, .val (.long p1), .second, .val (.long p2), .second, .val (.int p3), .val (.int (3 : Int32)), .val (.int v236), .val (.ref b237), .val (.ref b241)] []))
          refine own_aload (pc' := 134) X251 hx (hb hby at_132) rfl rfl rfl ?_
          refine own_iload (pc' := 136) X251 hx (hb hby at_134) rfl rfl ?_
          have f255 := (f252.keep K251 (ninS ne_b241_c242 nin0))
          have f256 := (f253.keep K251)
          refine own_callV (pc' := 139) (W := 0) (y := (⟨"com/example/eventual_leader/eventualleader/election/RecoveryCounts", "increment", "(I)V"⟩ : MethodName)) (z := (⟨"com/example/eventual_leader/eventualleader/election/RecoveryCounts", "increment", "(I)V"⟩ : MethodName)) X251 hx hZ hown (own_w hw 18 rfl) (own_w hw 19 rfl) (notFace_of_selects (args := #[]) (mvT hZ (own_w hw 21 rfl))) (own_w hw 21 rfl) (own_w hw 20 rfl) (own_w hw 4 rfl) (own_w hw 22 rfl) (by decide) f256 (conN l Z a0 hw b241 (3 : Int32) _ n0 z251 c242 k242 [(.long p0), (.long p1), (.long p2)] f255 V251 2 ⟨by decide, by decide⟩ rfl (Nat.le_of_ble_eq_true rfl) g_c242 p2 rfl) e251 pd0 [(.int (3 : Int32))] [] rfl rfl rfl (Nat.le_of_eq rfl) (by decide) (by decide) (by rw [hml]; rfl) (hb hby at_136) (by decide) (by decide) rfl ?_
          intro v254 T254 L254 X254 q254
          obtain ⟨rfl, M254, K254, V254⟩ := q254
          obtain ⟨h254, e254⟩ : ∃ z, z = T254.heap := ⟨_, rfl⟩
          rw [← e254] at K254 V254
          have e254 := e254.symm
          have z254 : n0 ≤ h254.size := Nat.le_trans z251 K254.1
          have N254 := Fr.app N251 M254
          show own_WP _ _ _ _ _ _ _ (T254.setTop (mkF m 139 #[.val (.long p0), .second, .val (.long p1), .second, .val (.long p2), .second, .val (.int p3), .val (.int (3 : Int32)), .val (.int v236), .val (.ref b237), .val (.ref b241)] []))
          by_cases hlt : p2 < (9223372036854775807 : Int64)
          · rw [if_pos hlt] at V254
            have V254 : Arv Z h254 c242 k242 .long 3 [(.long p0), (.long p1), (.long (p2 + 1))] (.long 0) := V254
            refine own_aload (pc' := 141) X254 hx (hb hby at_139) rfl rfl rfl ?_
            refine own_iconst (pc' := 142) X254 hx (1 : Int32) (hb hby at_141) rfl rfl ?_
            have f258 := (f255.keep K254 (ninS ne_b241_c242 nin0))
            have f259 := (f256.keep K254)
            refine own_callV (pc' := 145) (W := 0) (y := (⟨"com/example/eventual_leader/eventualleader/election/RecoveryCounts", "of", "(I)J"⟩ : MethodName)) (z := (⟨"com/example/eventual_leader/eventualleader/election/RecoveryCounts", "of", "(I)J"⟩ : MethodName)) X254 hx hZ hown (own_w hw 24 rfl) (own_w hw 25 rfl) (notFace_of_selects (args := #[]) (mvT hZ (own_w hw 27 rfl))) (own_w hw 27 rfl) (own_w hw 26 rfl) (own_w hw 4 rfl) (own_w hw 28 rfl) (by decide) f259 (conO l Z a0 hw b241 (1 : Int32) _ c242 k242 [(.long p0), (.long p1), (.long (p2 + 1))] f258 V254 0 ⟨by decide, by decide⟩ rfl p0 rfl) e254 pd2 [(.int (1 : Int32))] [] rfl rfl rfl (Nat.le_of_eq rfl) (by decide) (by decide) (by rw [hml]; rfl) (hb hby at_142) (by decide) (by decide) rfl ?_
            intro v257 T257 L257 X257 q257
            obtain ⟨r257, rfl, hr257, rfl, e257⟩ := q257
            have N257 := Fr.app N254 (Fr.nil n0)
            show own_WP _ _ _ _ _ _ _ (T257.setTop (mkF m 145 #[.val (.long p0), .second, .val (.long p1), .second, .val (.long p2), .second, .val (.int p3), .val (.int (3 : Int32)), .val (.int v236), .val (.ref b237), .val (.ref b241)] [(.long r257)]))
            refine own_iconst (pc' := 146) X257 hx (1 : Int32) (hb hby at_145) rfl rfl ?_
            refine own_iload (pc' := 148) X257 hx (hb hby at_146) rfl rfl ?_
            refine own_aload (pc' := 150) X257 hx (hb hby at_148) rfl rfl rfl ?_
            refine own_iconst (pc' := 151) X257 hx (0 : Int32) (hb hby at_150) rfl rfl ?_
            have f260 := ((f250.keep K251 (ninS ne_b237_c242 nin0)).keep K254 (ninS ne_b237_c242 nin0))
            refine own_laload (pc' := 152) (v := (.long p0)) X257 hx hZ e257 f260 ⟨by decide, by decide⟩ rfl (hb hby at_151) rfl ?_
            refine own_callS (pc' := 155) (W := 2) (y := (⟨"com/example/eventual_leader/eventualleader/election/RecoveryCountsIncrementPinLaw", "expect", "(IIJ)J"⟩ : MethodName)) X257 hx hZ hown (own_w hw 29 rfl) (own_w hw 30 rfl) (own_w hw 31 rfl) (own_w hw 32 rfl) (by decide) (conX l Z a0 hw (1 : Int32) (3 : Int32) p0 _ ) e257 pd3 [(.int (1 : Int32)), (.int (3 : Int32)), (.long p0)] [(.long r257)] rfl rfl rfl (Nat.le_of_eq rfl) (by decide) (by decide) (by rw [hml]; rfl) (hb hby at_152) (by decide) (by decide) rfl ?_
            intro v261 T261 L261 X261 q261
            obtain ⟨r261, rfl, hr261, rfl, e261⟩ := q261
            have N261 := Fr.app N257 (Fr.nil n0)
            show own_WP _ _ _ _ _ _ _ (T261.setTop (mkF m 155 #[.val (.long p0), .second, .val (.long p1), .second, .val (.long p2), .second, .val (.int p3), .val (.int (3 : Int32)), .val (.int v236), .val (.ref b237), .val (.ref b241)] [(.long r261), (.long r257)]))
            refine own_lcmp (pc' := 156) X261 hx (hb hby at_155) rfl ?_
            refine own_ifl_ne (pt := 203) (pf := 159) X261 hx (hb hby at_156) rfl (by decide) rfl (fun hc156 => absurd (by rw [hr257, hr261]; exact (own_exN (by decide)).symm) hc156) (fun hc156 => ?_)
            refine own_aload (pc' := 161) X261 hx (hb hby at_159) rfl rfl rfl ?_
            refine own_iconst (pc' := 162) X261 hx (2 : Int32) (hb hby at_161) rfl rfl ?_
            refine own_callV (pc' := 165) (W := 0) (y := (⟨"com/example/eventual_leader/eventualleader/election/RecoveryCounts", "of", "(I)J"⟩ : MethodName)) (z := (⟨"com/example/eventual_leader/eventualleader/election/RecoveryCounts", "of", "(I)J"⟩ : MethodName)) X261 hx hZ hown (own_w hw 24 rfl) (own_w hw 25 rfl) (notFace_of_selects (args := #[]) (mvT hZ (own_w hw 27 rfl))) (own_w hw 27 rfl) (own_w hw 26 rfl) (own_w hw 4 rfl) (own_w hw 28 rfl) (by decide) f259 (conO l Z a0 hw b241 (2 : Int32) _ c242 k242 [(.long p0), (.long p1), (.long (p2 + 1))] f258 V254 1 ⟨by decide, by decide⟩ rfl p1 rfl) e261 pd2 [(.int (2 : Int32))] [] rfl rfl rfl (Nat.le_of_eq rfl) (by decide) (by decide) (by rw [hml]; rfl) (hb hby at_162) (by decide) (by decide) rfl ?_
            intro v262 T262 L262 X262 q262
            obtain ⟨r262, rfl, hr262, rfl, e262⟩ := q262
            have N262 := Fr.app N261 (Fr.nil n0)
            show own_WP _ _ _ _ _ _ _ (T262.setTop (mkF m 165 #[.val (.long p0), .second, .val (.long p1), .second, .val (.long p2), .second, .val (.int p3), .val (.int (3 : Int32)), .val (.int v236), .val (.ref b237), .val (.ref b241)] [(.long r262)]))
            refine own_iconst (pc' := 166) X262 hx (2 : Int32) (hb hby at_165) rfl rfl ?_
            refine own_iload (pc' := 168) X262 hx (hb hby at_166) rfl rfl ?_
            refine own_aload (pc' := 170) X262 hx (hb hby at_168) rfl rfl rfl ?_
            refine own_iconst (pc' := 171) X262 hx (1 : Int32) (hb hby at_170) rfl rfl ?_
            refine own_laload (pc' := 172) (v := (.long p1)) X262 hx hZ e262 f260 ⟨by decide, by decide⟩ rfl (hb hby at_171) rfl ?_
            refine own_callS (pc' := 175) (W := 2) (y := (⟨"com/example/eventual_leader/eventualleader/election/RecoveryCountsIncrementPinLaw", "expect", "(IIJ)J"⟩ : MethodName)) X262 hx hZ hown (own_w hw 29 rfl) (own_w hw 30 rfl) (own_w hw 31 rfl) (own_w hw 32 rfl) (by decide) (conX l Z a0 hw (2 : Int32) (3 : Int32) p1 _ ) e262 pd3 [(.int (2 : Int32)), (.int (3 : Int32)), (.long p1)] [(.long r262)] rfl rfl rfl (Nat.le_of_eq rfl) (by decide) (by decide) (by rw [hml]; rfl) (hb hby at_172) (by decide) (by decide) rfl ?_
            intro v263 T263 L263 X263 q263
            obtain ⟨r263, rfl, hr263, rfl, e263⟩ := q263
            have N263 := Fr.app N262 (Fr.nil n0)
            show own_WP _ _ _ _ _ _ _ (T263.setTop (mkF m 175 #[.val (.long p0), .second, .val (.long p1), .second, .val (.long p2), .second, .val (.int p3), .val (.int (3 : Int32)), .val (.int v236), .val (.ref b237), .val (.ref b241)] [(.long r263), (.long r262)]))
            refine own_lcmp (pc' := 176) X263 hx (hb hby at_175) rfl ?_
            refine own_ifl_ne (pt := 203) (pf := 179) X263 hx (hb hby at_176) rfl (by decide) rfl (fun hc176 => absurd (by rw [hr262, hr263]; exact (own_exN (by decide)).symm) hc176) (fun hc176 => ?_)
            refine own_aload (pc' := 181) X263 hx (hb hby at_179) rfl rfl rfl ?_
            refine own_iconst (pc' := 182) X263 hx (3 : Int32) (hb hby at_181) rfl rfl ?_
            refine own_callV (pc' := 185) (W := 0) (y := (⟨"com/example/eventual_leader/eventualleader/election/RecoveryCounts", "of", "(I)J"⟩ : MethodName)) (z := (⟨"com/example/eventual_leader/eventualleader/election/RecoveryCounts", "of", "(I)J"⟩ : MethodName)) X263 hx hZ hown (own_w hw 24 rfl) (own_w hw 25 rfl) (notFace_of_selects (args := #[]) (mvT hZ (own_w hw 27 rfl))) (own_w hw 27 rfl) (own_w hw 26 rfl) (own_w hw 4 rfl) (own_w hw 28 rfl) (by decide) f259 (conO l Z a0 hw b241 (3 : Int32) _ c242 k242 [(.long p0), (.long p1), (.long (p2 + 1))] f258 V254 2 ⟨by decide, by decide⟩ rfl (p2 + 1) rfl) e263 pd2 [(.int (3 : Int32))] [] rfl rfl rfl (Nat.le_of_eq rfl) (by decide) (by decide) (by rw [hml]; rfl) (hb hby at_182) (by decide) (by decide) rfl ?_
            intro v264 T264 L264 X264 q264
            obtain ⟨r264, rfl, hr264, rfl, e264⟩ := q264
            have N264 := Fr.app N263 (Fr.nil n0)
            show own_WP _ _ _ _ _ _ _ (T264.setTop (mkF m 185 #[.val (.long p0), .second, .val (.long p1), .second, .val (.long p2), .second, .val (.int p3), .val (.int (3 : Int32)), .val (.int v236), .val (.ref b237), .val (.ref b241)] [(.long r264)]))
            refine own_iconst (pc' := 186) X264 hx (3 : Int32) (hb hby at_185) rfl rfl ?_
            refine own_iload (pc' := 188) X264 hx (hb hby at_186) rfl rfl ?_
            refine own_aload (pc' := 190) X264 hx (hb hby at_188) rfl rfl rfl ?_
            refine own_iconst (pc' := 191) X264 hx (2 : Int32) (hb hby at_190) rfl rfl ?_
            refine own_laload (pc' := 192) (v := (.long p2)) X264 hx hZ e264 f260 ⟨by decide, by decide⟩ rfl (hb hby at_191) rfl ?_
            refine own_callS (pc' := 195) (W := 2) (y := (⟨"com/example/eventual_leader/eventualleader/election/RecoveryCountsIncrementPinLaw", "expect", "(IIJ)J"⟩ : MethodName)) X264 hx hZ hown (own_w hw 29 rfl) (own_w hw 30 rfl) (own_w hw 31 rfl) (own_w hw 32 rfl) (by decide) (conX l Z a0 hw (3 : Int32) (3 : Int32) p2 _ ) e264 pd3 [(.int (3 : Int32)), (.int (3 : Int32)), (.long p2)] [(.long r264)] rfl rfl rfl (Nat.le_of_eq rfl) (by decide) (by decide) (by rw [hml]; rfl) (hb hby at_192) (by decide) (by decide) rfl ?_
            intro v265 T265 L265 X265 q265
            obtain ⟨r265, rfl, hr265, rfl, e265⟩ := q265
            have N265 := Fr.app N264 (Fr.nil n0)
            show own_WP _ _ _ _ _ _ _ (T265.setTop (mkF m 195 #[.val (.long p0), .second, .val (.long p1), .second, .val (.long p2), .second, .val (.int p3), .val (.int (3 : Int32)), .val (.int v236), .val (.ref b237), .val (.ref b241)] [(.long r265), (.long r264)]))
            refine own_lcmp (pc' := 196) X265 hx (hb hby at_195) rfl ?_
            refine own_ifl_ne (pt := 203) (pf := 199) X265 hx (hb hby at_196) rfl (by decide) rfl (fun hc196 => absurd (by rw [hr264, hr265]; exact (own_exY hlt).symm) hc196) (fun hc196 => ?_)
            refine own_iconst (pc' := 200) X265 hx (1 : Int32) (hb hby at_199) rfl rfl ?_
            refine own_goto (pc' := 204) X265 hx (hb hby at_200) (by decide) rfl ?_
            refine own_retN X265 hx hlk (t := .boolean) (by decide) hret (hb hby at_204) (by decide) (by decide) ?_
            exact ⟨rfl, N265⟩
          · rw [if_neg hlt] at V254
            have V254 : Arv Z h254 c242 k242 .long 3 [(.long p0), (.long p1), (.long p2)] (.long 0) := V254
            refine own_aload (pc' := 141) X254 hx (hb hby at_139) rfl rfl rfl ?_
            refine own_iconst (pc' := 142) X254 hx (1 : Int32) (hb hby at_141) rfl rfl ?_
            have f267 := (f255.keep K254 (ninS ne_b241_c242 nin0))
            have f268 := (f256.keep K254)
            refine own_callV (pc' := 145) (W := 0) (y := (⟨"com/example/eventual_leader/eventualleader/election/RecoveryCounts", "of", "(I)J"⟩ : MethodName)) (z := (⟨"com/example/eventual_leader/eventualleader/election/RecoveryCounts", "of", "(I)J"⟩ : MethodName)) X254 hx hZ hown (own_w hw 24 rfl) (own_w hw 25 rfl) (notFace_of_selects (args := #[]) (mvT hZ (own_w hw 27 rfl))) (own_w hw 27 rfl) (own_w hw 26 rfl) (own_w hw 4 rfl) (own_w hw 28 rfl) (by decide) f268 (conO l Z a0 hw b241 (1 : Int32) _ c242 k242 [(.long p0), (.long p1), (.long p2)] f267 V254 0 ⟨by decide, by decide⟩ rfl p0 rfl) e254 pd2 [(.int (1 : Int32))] [] rfl rfl rfl (Nat.le_of_eq rfl) (by decide) (by decide) (by rw [hml]; rfl) (hb hby at_142) (by decide) (by decide) rfl ?_
            intro v266 T266 L266 X266 q266
            obtain ⟨r266, rfl, hr266, rfl, e266⟩ := q266
            have N266 := Fr.app N254 (Fr.nil n0)
            show own_WP _ _ _ _ _ _ _ (T266.setTop (mkF m 145 #[.val (.long p0), .second, .val (.long p1), .second, .val (.long p2), .second, .val (.int p3), .val (.int (3 : Int32)), .val (.int v236), .val (.ref b237), .val (.ref b241)] [(.long r266)]))
            refine own_iconst (pc' := 146) X266 hx (1 : Int32) (hb hby at_145) rfl rfl ?_
            refine own_iload (pc' := 148) X266 hx (hb hby at_146) rfl rfl ?_
            refine own_aload (pc' := 150) X266 hx (hb hby at_148) rfl rfl rfl ?_
            refine own_iconst (pc' := 151) X266 hx (0 : Int32) (hb hby at_150) rfl rfl ?_
            have f269 := ((f250.keep K251 (ninS ne_b237_c242 nin0)).keep K254 (ninS ne_b237_c242 nin0))
            refine own_laload (pc' := 152) (v := (.long p0)) X266 hx hZ e266 f269 ⟨by decide, by decide⟩ rfl (hb hby at_151) rfl ?_
            refine own_callS (pc' := 155) (W := 2) (y := (⟨"com/example/eventual_leader/eventualleader/election/RecoveryCountsIncrementPinLaw", "expect", "(IIJ)J"⟩ : MethodName)) X266 hx hZ hown (own_w hw 29 rfl) (own_w hw 30 rfl) (own_w hw 31 rfl) (own_w hw 32 rfl) (by decide) (conX l Z a0 hw (1 : Int32) (3 : Int32) p0 _ ) e266 pd3 [(.int (1 : Int32)), (.int (3 : Int32)), (.long p0)] [(.long r266)] rfl rfl rfl (Nat.le_of_eq rfl) (by decide) (by decide) (by rw [hml]; rfl) (hb hby at_152) (by decide) (by decide) rfl ?_
            intro v270 T270 L270 X270 q270
            obtain ⟨r270, rfl, hr270, rfl, e270⟩ := q270
            have N270 := Fr.app N266 (Fr.nil n0)
            show own_WP _ _ _ _ _ _ _ (T270.setTop (mkF m 155 #[.val (.long p0), .second, .val (.long p1), .second, .val (.long p2), .second, .val (.int p3), .val (.int (3 : Int32)), .val (.int v236), .val (.ref b237), .val (.ref b241)] [(.long r270), (.long r266)]))
            refine own_lcmp (pc' := 156) X270 hx (hb hby at_155) rfl ?_
            refine own_ifl_ne (pt := 203) (pf := 159) X270 hx (hb hby at_156) rfl (by decide) rfl (fun hc156 => absurd (by rw [hr266, hr270]; exact (own_exN (by decide)).symm) hc156) (fun hc156 => ?_)
            refine own_aload (pc' := 161) X270 hx (hb hby at_159) rfl rfl rfl ?_
            refine own_iconst (pc' := 162) X270 hx (2 : Int32) (hb hby at_161) rfl rfl ?_
            refine own_callV (pc' := 165) (W := 0) (y := (⟨"com/example/eventual_leader/eventualleader/election/RecoveryCounts", "of", "(I)J"⟩ : MethodName)) (z := (⟨"com/example/eventual_leader/eventualleader/election/RecoveryCounts", "of", "(I)J"⟩ : MethodName)) X270 hx hZ hown (own_w hw 24 rfl) (own_w hw 25 rfl) (notFace_of_selects (args := #[]) (mvT hZ (own_w hw 27 rfl))) (own_w hw 27 rfl) (own_w hw 26 rfl) (own_w hw 4 rfl) (own_w hw 28 rfl) (by decide) f268 (conO l Z a0 hw b241 (2 : Int32) _ c242 k242 [(.long p0), (.long p1), (.long p2)] f267 V254 1 ⟨by decide, by decide⟩ rfl p1 rfl) e270 pd2 [(.int (2 : Int32))] [] rfl rfl rfl (Nat.le_of_eq rfl) (by decide) (by decide) (by rw [hml]; rfl) (hb hby at_162) (by decide) (by decide) rfl ?_
            intro v271 T271 L271 X271 q271
            obtain ⟨r271, rfl, hr271, rfl, e271⟩ := q271
            have N271 := Fr.app N270 (Fr.nil n0)
            show own_WP _ _ _ _ _ _ _ (T271.setTop (mkF m 165 #[.val (.long p0), .second, .val (.long p1), .second, .val (.long p2), .second, .val (.int p3), .val (.int (3 : Int32)), .val (.int v236), .val (.ref b237), .val (.ref b241)] [(.long r271)]))
            refine own_iconst (pc' := 166) X271 hx (2 : Int32) (hb hby at_165) rfl rfl ?_
            refine own_iload (pc' := 168) X271 hx (hb hby at_166) rfl rfl ?_
            refine own_aload (pc' := 170) X271 hx (hb hby at_168) rfl rfl rfl ?_
            refine own_iconst (pc' := 171) X271 hx (1 : Int32) (hb hby at_170) rfl rfl ?_
            refine own_laload (pc' := 172) (v := (.long p1)) X271 hx hZ e271 f269 ⟨by decide, by decide⟩ rfl (hb hby at_171) rfl ?_
            refine own_callS (pc' := 175) (W := 2) (y := (⟨"com/example/eventual_leader/eventualleader/election/RecoveryCountsIncrementPinLaw", "expect", "(IIJ)J"⟩ : MethodName)) X271 hx hZ hown (own_w hw 29 rfl) (own_w hw 30 rfl) (own_w hw 31 rfl) (own_w hw 32 rfl) (by decide) (conX l Z a0 hw (2 : Int32) (3 : Int32) p1 _ ) e271 pd3 [(.int (2 : Int32)), (.int (3 : Int32)), (.long p1)] [(.long r271)] rfl rfl rfl (Nat.le_of_eq rfl) (by decide) (by decide) (by rw [hml]; rfl) (hb hby at_172) (by decide) (by decide) rfl ?_
            intro v272 T272 L272 X272 q272
            obtain ⟨r272, rfl, hr272, rfl, e272⟩ := q272
            have N272 := Fr.app N271 (Fr.nil n0)
            show own_WP _ _ _ _ _ _ _ (T272.setTop (mkF m 175 #[.val (.long p0), .second, .val (.long p1), .second, .val (.long p2), .second, .val (.int p3), .val (.int (3 : Int32)), .val (.int v236), .val (.ref b237), .val (.ref b241)] [(.long r272), (.long r271)]))
            refine own_lcmp (pc' := 176) X272 hx (hb hby at_175) rfl ?_
            refine own_ifl_ne (pt := 203) (pf := 179) X272 hx (hb hby at_176) rfl (by decide) rfl (fun hc176 => absurd (by rw [hr271, hr272]; exact (own_exN (by decide)).symm) hc176) (fun hc176 => ?_)
            refine own_aload (pc' := 181) X272 hx (hb hby at_179) rfl rfl rfl ?_
            refine own_iconst (pc' := 182) X272 hx (3 : Int32) (hb hby at_181) rfl rfl ?_
            refine own_callV (pc' := 185) (W := 0) (y := (⟨"com/example/eventual_leader/eventualleader/election/RecoveryCounts", "of", "(I)J"⟩ : MethodName)) (z := (⟨"com/example/eventual_leader/eventualleader/election/RecoveryCounts", "of", "(I)J"⟩ : MethodName)) X272 hx hZ hown (own_w hw 24 rfl) (own_w hw 25 rfl) (notFace_of_selects (args := #[]) (mvT hZ (own_w hw 27 rfl))) (own_w hw 27 rfl) (own_w hw 26 rfl) (own_w hw 4 rfl) (own_w hw 28 rfl) (by decide) f268 (conO l Z a0 hw b241 (3 : Int32) _ c242 k242 [(.long p0), (.long p1), (.long p2)] f267 V254 2 ⟨by decide, by decide⟩ rfl p2 rfl) e272 pd2 [(.int (3 : Int32))] [] rfl rfl rfl (Nat.le_of_eq rfl) (by decide) (by decide) (by rw [hml]; rfl) (hb hby at_182) (by decide) (by decide) rfl ?_
            intro v273 T273 L273 X273 q273
            obtain ⟨r273, rfl, hr273, rfl, e273⟩ := q273
            have N273 := Fr.app N272 (Fr.nil n0)
            show own_WP _ _ _ _ _ _ _ (T273.setTop (mkF m 185 #[.val (.long p0), .second, .val (.long p1), .second, .val (.long p2), .second, .val (.int p3), .val (.int (3 : Int32)), .val (.int v236), .val (.ref b237), .val (.ref b241)] [(.long r273)]))
            refine own_iconst (pc' := 186) X273 hx (3 : Int32) (hb hby at_185) rfl rfl ?_
            refine own_iload (pc' := 188) X273 hx (hb hby at_186) rfl rfl ?_
            refine own_aload (pc' := 190) X273 hx (hb hby at_188) rfl rfl rfl ?_
            refine own_iconst (pc' := 191) X273 hx (2 : Int32) (hb hby at_190) rfl rfl ?_
            refine own_laload (pc' := 192) (v := (.long p2)) X273 hx hZ e273 f269 ⟨by decide, by decide⟩ rfl (hb hby at_191) rfl ?_
            refine own_callS (pc' := 195) (W := 2) (y := (⟨"com/example/eventual_leader/eventualleader/election/RecoveryCountsIncrementPinLaw", "expect", "(IIJ)J"⟩ : MethodName)) X273 hx hZ hown (own_w hw 29 rfl) (own_w hw 30 rfl) (own_w hw 31 rfl) (own_w hw 32 rfl) (by decide) (conX l Z a0 hw (3 : Int32) (3 : Int32) p2 _ ) e273 pd3 [(.int (3 : Int32)), (.int (3 : Int32)), (.long p2)] [(.long r273)] rfl rfl rfl (Nat.le_of_eq rfl) (by decide) (by decide) (by rw [hml]; rfl) (hb hby at_192) (by decide) (by decide) rfl ?_
            intro v274 T274 L274 X274 q274
            obtain ⟨r274, rfl, hr274, rfl, e274⟩ := q274
            have N274 := Fr.app N273 (Fr.nil n0)
            show own_WP _ _ _ _ _ _ _ (T274.setTop (mkF m 195 #[.val (.long p0), .second, .val (.long p1), .second, .val (.long p2), .second, .val (.int p3), .val (.int (3 : Int32)), .val (.int v236), .val (.ref b237), .val (.ref b241)] [(.long r274), (.long r273)]))
            refine own_lcmp (pc' := 196) X274 hx (hb hby at_195) rfl ?_
            refine own_ifl_ne (pt := 203) (pf := 199) X274 hx (hb hby at_196) rfl (by decide) rfl (fun hc196 => absurd (by rw [hr273, hr274]; exact (own_exM hlt).symm) hc196) (fun hc196 => ?_)
            refine own_iconst (pc' := 200) X274 hx (1 : Int32) (hb hby at_199) rfl rfl ?_
            refine own_goto (pc' := 204) X274 hx (hb hby at_200) (by decide) rfl ?_
            refine own_retN X274 hx hlk (t := .boolean) (by decide) hret (hb hby at_204) (by decide) (by decide) ?_
            exact ⟨rfl, N274⟩
        · skip
          refine own_aload (pc' := 84) X240 hx (hb hby at_82) rfl rfl rfl ?_
          refine own_iload (pc' := 86) X240 hx (hb hby at_84) rfl rfl ?_
          refine own_iconst (pc' := 87) X240 hx (1 : Int32) (hb hby at_86) rfl rfl ?_
          refine own_isub (pc' := 88) X240 hx (hb hby at_87) rfl ?_
          show own_WP _ _ _ _ _ _ _ (T240.setTop (mkF m 88 #[.val (.long p0), .second, .val (.long p1), .second, .val (.long p2), .second, .val (.int p3), .val (.int (3 : Int32)), .val (.int v236), .val (.ref b237), .unset] [(.int (2 : Int32)), (.ref b237)]))
          refine own_ldc2Long (pc' := 91) X240 hx hZ hown (own_w hw 35 rfl) (hb hby at_88) rfl ?_
          refine own_lastore (pc' := 92) X240 hx hZ e240 V240 ⟨by decide, by decide⟩ 2 rfl (Nat.le_of_ble_eq_true rfl) (hb hby at_91) rfl ?_
          intro T275 h275 X275 e275 W275 V275
          have z275 : n0 ≤ h275.size := Nat.le_trans z240 (Keep.of_wr W275).1
          have V275 : Arv Z h275 b237 k237 .long (3 : Int32) [(.long p0), (.long p1), (.long (-9223372036854775808 : Int64))] (.long (0 : Int64)) := V275
          have N275 := Fr.snoc X275 N240 g_b237
          refine own_new (pc' := 95) X275 hx hZ hown (own_w hw 2 rfl) (own_w hw 3 rfl) (own_w hw 4 rfl) e275 (hb hby at_92) (by decide) (by decide) rfl ?_
          intro T276 h276 b276 g276 X276 e276 E276 A276 D276
          have ne_b237_b276 : b237 ≠ b276 := Nat.ne_of_lt (Nat.lt_of_lt_of_le V275.lt (Nat.le_of_eq g276.symm))
          have ne_b276_b237 := ne_b237_b276.symm
          have g_b276 : n0 ≤ b276 := Nat.le_trans z275 (Nat.le_of_eq g276.symm)
          have z276 : n0 ≤ h276.size := Nat.le_trans z275 E276.1
          have F276_counts : Fld Z h276 b276 "com/example/eventual_leader/eventualleader/election/RecoveryCounts" "counts" "[J" .null := D276 (Or.inr (own_w hw 12 rfl)) (ty := (.array .long)) (by decide +kernel)
          refine own_dup (pc' := 96) X276 hx (hb hby at_95) rfl rfl ?_
          refine own_iconst (pc' := 97) X276 hx (3 : Int32) (hb hby at_96) rfl rfl ?_
          refine own_callN (pc' := 100) (W := 1) (y := (⟨"com/example/eventual_leader/eventualleader/election/RecoveryCounts", "<init>", "(I)V"⟩ : MethodName)) X276 hx hZ rfl hown (own_w hw 5 rfl) (own_w hw 6 rfl) (own_w hw 4 rfl) (own_w hw 7 rfl) (by decide) (conI l Z a0 hw b276 _ n0 z276 A276 F276_counts g_b276) e276 pd0 b276 [(.int (3 : Int32))] [(.ref b276)] rfl rfl rfl (Nat.le_of_eq rfl) (by decide) (by decide) (by rw [hml]; rfl) (hb hby at_97) (by decide) (by decide) rfl ?_
          intro v277 T277 L277 X277 q277
          obtain ⟨c277, k277, rfl, M277, K277, E277q, F277q, V277, g_c277, s277⟩ := q277
          have f278 := (V275.ext E276)
          have ne_b237_c277 : b237 ≠ c277 := Nat.ne_of_lt (Nat.lt_of_lt_of_le f278.lt s277)
          have ne_c277_b237 := ne_b237_c277.symm
          have ne_b276_c277 : b276 ≠ c277 := Nat.ne_of_lt (Nat.lt_of_lt_of_le A276.lt s277)
          have ne_c277_b276 := ne_b276_c277.symm
          obtain ⟨h277, e277⟩ : ∃ z, z = T277.heap := ⟨_, rfl⟩
          rw [← e277] at K277 E277q F277q V277
          have e277 := e277.symm
          have z277 : n0 ≤ h277.size := Nat.le_trans z276 K277.1
          have N277 := Fr.app N275 M277
          show own_WP _ _ _ _ _ _ _ (T277.setTop (mkF m 100 #[.val (.long p0), .second, .val (.long p1), .second, .val (.long p2), .second, .val (.int p3), .val (.int (3 : Int32)), .val (.int v236), .val (.ref b237), .unset] [(.ref b276)]))
          refine own_astore (pc' := 102) (l' := #[.val (.long p0), .second, .val (.long p1), .second, .val (.long p2), .second, .val (.int p3), .val (.int (3 : Int32)), .val (.int v236), .val (.ref b237), .val (.ref b276)]) X277 hx (hb hby at_100) rfl rfl rfl ?_
          refine own_aload (pc' := 104) X277 hx (hb hby at_102) rfl rfl rfl ?_
          refine own_iconst (pc' := 105) X277 hx (1 : Int32) (hb hby at_104) rfl rfl ?_
          refine own_aload (pc' := 107) X277 hx (hb hby at_105) rfl rfl rfl ?_
          refine own_iconst (pc' := 108) X277 hx (0 : Int32) (hb hby at_107) rfl rfl ?_
          have f279 := (f278.keep K277 (ninS ne_b237_b276 nin0))
          refine own_laload (pc' := 109) (v := (.long p0)) X277 hx hZ e277 f279 ⟨by decide, by decide⟩ rfl (hb hby at_108) rfl ?_
          refine own_callV (pc' := 112) (W := 0) (y := (⟨"com/example/eventual_leader/eventualleader/election/RecoveryCounts", "set", "(IJ)V"⟩ : MethodName)) (z := (⟨"com/example/eventual_leader/eventualleader/election/RecoveryCounts", "set", "(IJ)V"⟩ : MethodName)) X277 hx hZ hown (own_w hw 13 rfl) (own_w hw 14 rfl) (notFace_of_selects (args := #[]) (mvT hZ (own_w hw 16 rfl))) (own_w hw 16 rfl) (own_w hw 15 rfl) (own_w hw 4 rfl) (own_w hw 17 rfl) (by decide) E277q (conS l Z a0 hw b276 (1 : Int32) p0 _ n0 z277 c277 k277 [(.long (0 : Int64)), (.long (0 : Int64)), (.long (0 : Int64))] F277q V277 0 ⟨by decide, by decide⟩ rfl (Nat.le_of_ble_eq_true rfl) g_c277) e277 pd1 [(.int (1 : Int32)), (.long p0)] [] rfl rfl rfl (Nat.le_of_eq rfl) (by decide) (by decide) (by rw [hml]; rfl) (hb hby at_109) (by decide) (by decide) rfl ?_
          intro v280 T280 L280 X280 q280
          obtain ⟨rfl, M280, K280, V280⟩ := q280
          obtain ⟨h280, e280⟩ : ∃ z, z = T280.heap := ⟨_, rfl⟩
          rw [← e280] at K280 V280
          have e280 := e280.symm
          have z280 : n0 ≤ h280.size := Nat.le_trans z277 K280.1
          have V280 : Arv Z h280 c277 k277 .long 3 [(.long p0), (.long (0 : Int64)), (.long (0 : Int64))] (.long 0) := V280
          have N280 := Fr.app N277 M280
          show own_WP _ _ _ _ _ _ _ (T280.setTop (mkF m 112 #[.val (.long p0), .second, .val (.long p1), .second, .val (.long p2), .second, .val (.int p3), .val (.int (3 : Int32)), .val (.int v236), .val (.ref b237), .val (.ref b276)] []))
          refine own_aload (pc' := 114) X280 hx (hb hby at_112) rfl rfl rfl ?_
          refine own_iconst (pc' := 115) X280 hx (2 : Int32) (hb hby at_114) rfl rfl ?_
          refine own_aload (pc' := 117) X280 hx (hb hby at_115) rfl rfl rfl ?_
          refine own_iconst (pc' := 118) X280 hx (1 : Int32) (hb hby at_117) rfl rfl ?_
          have f281 := (f279.keep K280 (ninS ne_b237_c277 nin0))
          refine own_laload (pc' := 119) (v := (.long p1)) X280 hx hZ e280 f281 ⟨by decide, by decide⟩ rfl (hb hby at_118) rfl ?_
          have f283 := (F277q.keep K280 (ninS ne_b276_c277 nin0))
          have f284 := (E277q.keep K280)
          refine own_callV (pc' := 122) (W := 0) (y := (⟨"com/example/eventual_leader/eventualleader/election/RecoveryCounts", "set", "(IJ)V"⟩ : MethodName)) (z := (⟨"com/example/eventual_leader/eventualleader/election/RecoveryCounts", "set", "(IJ)V"⟩ : MethodName)) X280 hx hZ hown (own_w hw 13 rfl) (own_w hw 14 rfl) (notFace_of_selects (args := #[]) (mvT hZ (own_w hw 16 rfl))) (own_w hw 16 rfl) (own_w hw 15 rfl) (own_w hw 4 rfl) (own_w hw 17 rfl) (by decide) f284 (conS l Z a0 hw b276 (2 : Int32) p1 _ n0 z280 c277 k277 [(.long p0), (.long (0 : Int64)), (.long (0 : Int64))] f283 V280 1 ⟨by decide, by decide⟩ rfl (Nat.le_of_ble_eq_true rfl) g_c277) e280 pd1 [(.int (2 : Int32)), (.long p1)] [] rfl rfl rfl (Nat.le_of_eq rfl) (by decide) (by decide) (by rw [hml]; rfl) (hb hby at_119) (by decide) (by decide) rfl ?_
          intro v282 T282 L282 X282 q282
          obtain ⟨rfl, M282, K282, V282⟩ := q282
          obtain ⟨h282, e282⟩ : ∃ z, z = T282.heap := ⟨_, rfl⟩
          rw [← e282] at K282 V282
          have e282 := e282.symm
          have z282 : n0 ≤ h282.size := Nat.le_trans z280 K282.1
          have V282 : Arv Z h282 c277 k277 .long 3 [(.long p0), (.long p1), (.long (0 : Int64))] (.long 0) := V282
          have N282 := Fr.app N280 M282
          show own_WP _ _ _ _ _ _ _ (T282.setTop (mkF m 122 #[.val (.long p0), .second, .val (.long p1), .second, .val (.long p2), .second, .val (.int p3), .val (.int (3 : Int32)), .val (.int v236), .val (.ref b237), .val (.ref b276)] []))
          refine own_aload (pc' := 124) X282 hx (hb hby at_122) rfl rfl rfl ?_
          refine own_iconst (pc' := 125) X282 hx (3 : Int32) (hb hby at_124) rfl rfl ?_
          refine own_aload (pc' := 127) X282 hx (hb hby at_125) rfl rfl rfl ?_
          refine own_iconst (pc' := 128) X282 hx (2 : Int32) (hb hby at_127) rfl rfl ?_
          have f285 := (f281.keep K282 (ninS ne_b237_c277 nin0))
          refine own_laload (pc' := 129) (v := (.long (-9223372036854775808 : Int64))) X282 hx hZ e282 f285 ⟨by decide, by decide⟩ rfl (hb hby at_128) rfl ?_
          have f287 := (f283.keep K282 (ninS ne_b276_c277 nin0))
          have f288 := (f284.keep K282)
          refine own_callV (pc' := 132) (W := 0) (y := (⟨"com/example/eventual_leader/eventualleader/election/RecoveryCounts", "set", "(IJ)V"⟩ : MethodName)) (z := (⟨"com/example/eventual_leader/eventualleader/election/RecoveryCounts", "set", "(IJ)V"⟩ : MethodName)) X282 hx hZ hown (own_w hw 13 rfl) (own_w hw 14 rfl) (notFace_of_selects (args := #[]) (mvT hZ (own_w hw 16 rfl))) (own_w hw 16 rfl) (own_w hw 15 rfl) (own_w hw 4 rfl) (own_w hw 17 rfl) (by decide) f288 (conS l Z a0 hw b276 (3 : Int32) (-9223372036854775808 : Int64) _ n0 z282 c277 k277 [(.long p0), (.long p1), (.long (0 : Int64))] f287 V282 2 ⟨by decide, by decide⟩ rfl (Nat.le_of_ble_eq_true rfl) g_c277) e282 pd1 [(.int (3 : Int32)), (.long (-9223372036854775808 : Int64))] [] rfl rfl rfl (Nat.le_of_eq rfl) (by decide) (by decide) (by rw [hml]; rfl) (hb hby at_129) (by decide) (by decide) rfl ?_
          intro v286 T286 L286 X286 q286
          obtain ⟨rfl, M286, K286, V286⟩ := q286
          obtain ⟨h286, e286⟩ : ∃ z, z = T286.heap := ⟨_, rfl⟩
          rw [← e286] at K286 V286
          have e286 := e286.symm
          have z286 : n0 ≤ h286.size := Nat.le_trans z282 K286.1
          have V286 : Arv Z h286 c277 k277 .long 3 [(.long p0), (.long p1), (.long (-9223372036854775808 : Int64))] (.long 0) := V286
          have N286 := Fr.app N282 M286
          show own_WP _ _ _ _ _ _ _ (T286.setTop (mkF m 132 #[.val (.long p0), .second, .val (.long p1), .second, .val (.long p2), .second, .val (.int p3), .val (.int (3 : Int32)), .val (.int v236), .val (.ref b237), .val (.ref b276)] []))
          refine own_aload (pc' := 134) X286 hx (hb hby at_132) rfl rfl rfl ?_
          refine own_iload (pc' := 136) X286 hx (hb hby at_134) rfl rfl ?_
          have f290 := (f287.keep K286 (ninS ne_b276_c277 nin0))
          have f291 := (f288.keep K286)
          refine own_callV (pc' := 139) (W := 0) (y := (⟨"com/example/eventual_leader/eventualleader/election/RecoveryCounts", "increment", "(I)V"⟩ : MethodName)) (z := (⟨"com/example/eventual_leader/eventualleader/election/RecoveryCounts", "increment", "(I)V"⟩ : MethodName)) X286 hx hZ hown (own_w hw 18 rfl) (own_w hw 19 rfl) (notFace_of_selects (args := #[]) (mvT hZ (own_w hw 21 rfl))) (own_w hw 21 rfl) (own_w hw 20 rfl) (own_w hw 4 rfl) (own_w hw 22 rfl) (by decide) f291 (conN l Z a0 hw b276 (3 : Int32) _ n0 z286 c277 k277 [(.long p0), (.long p1), (.long (-9223372036854775808 : Int64))] f290 V286 2 ⟨by decide, by decide⟩ rfl (Nat.le_of_ble_eq_true rfl) g_c277 (-9223372036854775808 : Int64) rfl) e286 pd0 [(.int (3 : Int32))] [] rfl rfl rfl (Nat.le_of_eq rfl) (by decide) (by decide) (by rw [hml]; rfl) (hb hby at_136) (by decide) (by decide) rfl ?_
          intro v289 T289 L289 X289 q289
          obtain ⟨rfl, M289, K289, V289⟩ := q289
          obtain ⟨h289, e289⟩ : ∃ z, z = T289.heap := ⟨_, rfl⟩
          rw [← e289] at K289 V289
          have e289 := e289.symm
          have z289 : n0 ≤ h289.size := Nat.le_trans z286 K289.1
          have N289 := Fr.app N286 M289
          have hlt : (-9223372036854775808 : Int64) < (9223372036854775807 : Int64) := by decide
          rw [if_pos hlt] at V289
          have V289 : Arv Z h289 c277 k277 .long 3 [(.long p0), (.long p1), (.long ((-9223372036854775808 : Int64) + 1))] (.long 0) := V289
          show own_WP _ _ _ _ _ _ _ (T289.setTop (mkF m 139 #[.val (.long p0), .second, .val (.long p1), .second, .val (.long p2), .second, .val (.int p3), .val (.int (3 : Int32)), .val (.int v236), .val (.ref b237), .val (.ref b276)] []))
          refine own_aload (pc' := 141) X289 hx (hb hby at_139) rfl rfl rfl ?_
          refine own_iconst (pc' := 142) X289 hx (1 : Int32) (hb hby at_141) rfl rfl ?_
          have f293 := (f290.keep K289 (ninS ne_b276_c277 nin0))
          have f294 := (f291.keep K289)
          refine own_callV (pc' := 145) (W := 0) (y := (⟨"com/example/eventual_leader/eventualleader/election/RecoveryCounts", "of", "(I)J"⟩ : MethodName)) (z := (⟨"com/example/eventual_leader/eventualleader/election/RecoveryCounts", "of", "(I)J"⟩ : MethodName)) X289 hx hZ hown (own_w hw 24 rfl) (own_w hw 25 rfl) (notFace_of_selects (args := #[]) (mvT hZ (own_w hw 27 rfl))) (own_w hw 27 rfl) (own_w hw 26 rfl) (own_w hw 4 rfl) (own_w hw 28 rfl) (by decide) f294 (conO l Z a0 hw b276 (1 : Int32) _ c277 k277 [(.long p0), (.long p1), (.long ((-9223372036854775808 : Int64) + 1))] f293 V289 0 ⟨by decide, by decide⟩ rfl p0 rfl) e289 pd2 [(.int (1 : Int32))] [] rfl rfl rfl (Nat.le_of_eq rfl) (by decide) (by decide) (by rw [hml]; rfl) (hb hby at_142) (by decide) (by decide) rfl ?_
          intro v292 T292 L292 X292 q292
          obtain ⟨r292, rfl, hr292, rfl, e292⟩ := q292
          have N292 := Fr.app N289 (Fr.nil n0)
          show own_WP _ _ _ _ _ _ _ (T292.setTop (mkF m 145 #[.val (.long p0), .second, .val (.long p1), .second, .val (.long p2), .second, .val (.int p3), .val (.int (3 : Int32)), .val (.int v236), .val (.ref b237), .val (.ref b276)] [(.long r292)]))
          refine own_iconst (pc' := 146) X292 hx (1 : Int32) (hb hby at_145) rfl rfl ?_
          refine own_iload (pc' := 148) X292 hx (hb hby at_146) rfl rfl ?_
          refine own_aload (pc' := 150) X292 hx (hb hby at_148) rfl rfl rfl ?_
          refine own_iconst (pc' := 151) X292 hx (0 : Int32) (hb hby at_150) rfl rfl ?_
          have f295 := ((f285.keep K286 (ninS ne_b237_c277 nin0)).keep K289 (ninS ne_b237_c277 nin0))
          refine own_laload (pc' := 152) (v := (.long p0)) X292 hx hZ e292 f295 ⟨by decide, by decide⟩ rfl (hb hby at_151) rfl ?_
          refine own_callS (pc' := 155) (W := 2) (y := (⟨"com/example/eventual_leader/eventualleader/election/RecoveryCountsIncrementPinLaw", "expect", "(IIJ)J"⟩ : MethodName)) X292 hx hZ hown (own_w hw 29 rfl) (own_w hw 30 rfl) (own_w hw 31 rfl) (own_w hw 32 rfl) (by decide) (conX l Z a0 hw (1 : Int32) (3 : Int32) p0 _ ) e292 pd3 [(.int (1 : Int32)), (.int (3 : Int32)), (.long p0)] [(.long r292)] rfl rfl rfl (Nat.le_of_eq rfl) (by decide) (by decide) (by rw [hml]; rfl) (hb hby at_152) (by decide) (by decide) rfl ?_
          intro v296 T296 L296 X296 q296
          obtain ⟨r296, rfl, hr296, rfl, e296⟩ := q296
          have N296 := Fr.app N292 (Fr.nil n0)
          show own_WP _ _ _ _ _ _ _ (T296.setTop (mkF m 155 #[.val (.long p0), .second, .val (.long p1), .second, .val (.long p2), .second, .val (.int p3), .val (.int (3 : Int32)), .val (.int v236), .val (.ref b237), .val (.ref b276)] [(.long r296), (.long r292)]))
          refine own_lcmp (pc' := 156) X296 hx (hb hby at_155) rfl ?_
          refine own_ifl_ne (pt := 203) (pf := 159) X296 hx (hb hby at_156) rfl (by decide) rfl (fun hc156 => absurd (by rw [hr292, hr296]; exact (own_exN (by decide)).symm) hc156) (fun hc156 => ?_)
          refine own_aload (pc' := 161) X296 hx (hb hby at_159) rfl rfl rfl ?_
          refine own_iconst (pc' := 162) X296 hx (2 : Int32) (hb hby at_161) rfl rfl ?_
          refine own_callV (pc' := 165) (W := 0) (y := (⟨"com/example/eventual_leader/eventualleader/election/RecoveryCounts", "of", "(I)J"⟩ : MethodName)) (z := (⟨"com/example/eventual_leader/eventualleader/election/RecoveryCounts", "of", "(I)J"⟩ : MethodName)) X296 hx hZ hown (own_w hw 24 rfl) (own_w hw 25 rfl) (notFace_of_selects (args := #[]) (mvT hZ (own_w hw 27 rfl))) (own_w hw 27 rfl) (own_w hw 26 rfl) (own_w hw 4 rfl) (own_w hw 28 rfl) (by decide) f294 (conO l Z a0 hw b276 (2 : Int32) _ c277 k277 [(.long p0), (.long p1), (.long ((-9223372036854775808 : Int64) + 1))] f293 V289 1 ⟨by decide, by decide⟩ rfl p1 rfl) e296 pd2 [(.int (2 : Int32))] [] rfl rfl rfl (Nat.le_of_eq rfl) (by decide) (by decide) (by rw [hml]; rfl) (hb hby at_162) (by decide) (by decide) rfl ?_
          intro v297 T297 L297 X297 q297
          obtain ⟨r297, rfl, hr297, rfl, e297⟩ := q297
          have N297 := Fr.app N296 (Fr.nil n0)
          show own_WP _ _ _ _ _ _ _ (T297.setTop (mkF m 165 #[.val (.long p0), .second, .val (.long p1), .second, .val (.long p2), .second, .val (.int p3), .val (.int (3 : Int32)), .val (.int v236), .val (.ref b237), .val (.ref b276)] [(.long r297)]))
          refine own_iconst (pc' := 166) X297 hx (2 : Int32) (hb hby at_165) rfl rfl ?_
          refine own_iload (pc' := 168) X297 hx (hb hby at_166) rfl rfl ?_
          refine own_aload (pc' := 170) X297 hx (hb hby at_168) rfl rfl rfl ?_
          refine own_iconst (pc' := 171) X297 hx (1 : Int32) (hb hby at_170) rfl rfl ?_
          refine own_laload (pc' := 172) (v := (.long p1)) X297 hx hZ e297 f295 ⟨by decide, by decide⟩ rfl (hb hby at_171) rfl ?_
          refine own_callS (pc' := 175) (W := 2) (y := (⟨"com/example/eventual_leader/eventualleader/election/RecoveryCountsIncrementPinLaw", "expect", "(IIJ)J"⟩ : MethodName)) X297 hx hZ hown (own_w hw 29 rfl) (own_w hw 30 rfl) (own_w hw 31 rfl) (own_w hw 32 rfl) (by decide) (conX l Z a0 hw (2 : Int32) (3 : Int32) p1 _ ) e297 pd3 [(.int (2 : Int32)), (.int (3 : Int32)), (.long p1)] [(.long r297)] rfl rfl rfl (Nat.le_of_eq rfl) (by decide) (by decide) (by rw [hml]; rfl) (hb hby at_172) (by decide) (by decide) rfl ?_
          intro v298 T298 L298 X298 q298
          obtain ⟨r298, rfl, hr298, rfl, e298⟩ := q298
          have N298 := Fr.app N297 (Fr.nil n0)
          show own_WP _ _ _ _ _ _ _ (T298.setTop (mkF m 175 #[.val (.long p0), .second, .val (.long p1), .second, .val (.long p2), .second, .val (.int p3), .val (.int (3 : Int32)), .val (.int v236), .val (.ref b237), .val (.ref b276)] [(.long r298), (.long r297)]))
          refine own_lcmp (pc' := 176) X298 hx (hb hby at_175) rfl ?_
          refine own_ifl_ne (pt := 203) (pf := 179) X298 hx (hb hby at_176) rfl (by decide) rfl (fun hc176 => absurd (by rw [hr297, hr298]; exact (own_exN (by decide)).symm) hc176) (fun hc176 => ?_)
          refine own_aload (pc' := 181) X298 hx (hb hby at_179) rfl rfl rfl ?_
          refine own_iconst (pc' := 182) X298 hx (3 : Int32) (hb hby at_181) rfl rfl ?_
          refine own_callV (pc' := 185) (W := 0) (y := (⟨"com/example/eventual_leader/eventualleader/election/RecoveryCounts", "of", "(I)J"⟩ : MethodName)) (z := (⟨"com/example/eventual_leader/eventualleader/election/RecoveryCounts", "of", "(I)J"⟩ : MethodName)) X298 hx hZ hown (own_w hw 24 rfl) (own_w hw 25 rfl) (notFace_of_selects (args := #[]) (mvT hZ (own_w hw 27 rfl))) (own_w hw 27 rfl) (own_w hw 26 rfl) (own_w hw 4 rfl) (own_w hw 28 rfl) (by decide) f294 (conO l Z a0 hw b276 (3 : Int32) _ c277 k277 [(.long p0), (.long p1), (.long ((-9223372036854775808 : Int64) + 1))] f293 V289 2 ⟨by decide, by decide⟩ rfl ((-9223372036854775808 : Int64) + 1) rfl) e298 pd2 [(.int (3 : Int32))] [] rfl rfl rfl (Nat.le_of_eq rfl) (by decide) (by decide) (by rw [hml]; rfl) (hb hby at_182) (by decide) (by decide) rfl ?_
          intro v299 T299 L299 X299 q299
          obtain ⟨r299, rfl, hr299, rfl, e299⟩ := q299
          have N299 := Fr.app N298 (Fr.nil n0)
          show own_WP _ _ _ _ _ _ _ (T299.setTop (mkF m 185 #[.val (.long p0), .second, .val (.long p1), .second, .val (.long p2), .second, .val (.int p3), .val (.int (3 : Int32)), .val (.int v236), .val (.ref b237), .val (.ref b276)] [(.long r299)]))
          refine own_iconst (pc' := 186) X299 hx (3 : Int32) (hb hby at_185) rfl rfl ?_
          refine own_iload (pc' := 188) X299 hx (hb hby at_186) rfl rfl ?_
          refine own_aload (pc' := 190) X299 hx (hb hby at_188) rfl rfl rfl ?_
          refine own_iconst (pc' := 191) X299 hx (2 : Int32) (hb hby at_190) rfl rfl ?_
          refine own_laload (pc' := 192) (v := (.long (-9223372036854775808 : Int64))) X299 hx hZ e299 f295 ⟨by decide, by decide⟩ rfl (hb hby at_191) rfl ?_
          refine own_callS (pc' := 195) (W := 2) (y := (⟨"com/example/eventual_leader/eventualleader/election/RecoveryCountsIncrementPinLaw", "expect", "(IIJ)J"⟩ : MethodName)) X299 hx hZ hown (own_w hw 29 rfl) (own_w hw 30 rfl) (own_w hw 31 rfl) (own_w hw 32 rfl) (by decide) (conX l Z a0 hw (3 : Int32) (3 : Int32) (-9223372036854775808 : Int64) _ ) e299 pd3 [(.int (3 : Int32)), (.int (3 : Int32)), (.long (-9223372036854775808 : Int64))] [(.long r299)] rfl rfl rfl (Nat.le_of_eq rfl) (by decide) (by decide) (by rw [hml]; rfl) (hb hby at_192) (by decide) (by decide) rfl ?_
          intro v300 T300 L300 X300 q300
          obtain ⟨r300, rfl, hr300, rfl, e300⟩ := q300
          have N300 := Fr.app N299 (Fr.nil n0)
          show own_WP _ _ _ _ _ _ _ (T300.setTop (mkF m 195 #[.val (.long p0), .second, .val (.long p1), .second, .val (.long p2), .second, .val (.int p3), .val (.int (3 : Int32)), .val (.int v236), .val (.ref b237), .val (.ref b276)] [(.long r300), (.long r299)]))
          refine own_lcmp (pc' := 196) X300 hx (hb hby at_195) rfl ?_
          refine own_ifl_ne (pt := 203) (pf := 199) X300 hx (hb hby at_196) rfl (by decide) rfl (fun hc196 => absurd (by rw [hr299, hr300]; exact (own_exY hlt).symm) hc196) (fun hc196 => ?_)
          refine own_iconst (pc' := 200) X300 hx (1 : Int32) (hb hby at_199) rfl rfl ?_
          refine own_goto (pc' := 204) X300 hx (hb hby at_200) (by decide) rfl ?_
          refine own_retN X300 hx hlk (t := .boolean) (by decide) hret (hb hby at_204) (by decide) (by decide) ?_
          exact ⟨rfl, N300⟩
      · skip
        refine own_aload (pc' := 65) X240 hx (hb hby at_63) rfl rfl rfl ?_
        refine own_iload (pc' := 67) X240 hx (hb hby at_65) rfl rfl ?_
        refine own_iconst (pc' := 68) X240 hx (1 : Int32) (hb hby at_67) rfl rfl ?_
        refine own_isub (pc' := 69) X240 hx (hb hby at_68) rfl ?_
        show own_WP _ _ _ _ _ _ _ (T240.setTop (mkF m 69 #[.val (.long p0), .second, .val (.long p1), .second, .val (.long p2), .second, .val (.int p3), .val (.int (3 : Int32)), .val (.int v236), .val (.ref b237), .unset] [(.int (2 : Int32)), (.ref b237)]))
        refine own_ldc2Long (pc' := 72) X240 hx hZ hown (own_w hw 34 rfl) (hb hby at_69) rfl ?_
        refine own_lastore (pc' := 73) X240 hx hZ e240 V240 ⟨by decide, by decide⟩ 2 rfl (Nat.le_of_ble_eq_true rfl) (hb hby at_72) rfl ?_
        intro T301 h301 X301 e301 W301 V301
        have z301 : n0 ≤ h301.size := Nat.le_trans z240 (Keep.of_wr W301).1
        have V301 : Arv Z h301 b237 k237 .long (3 : Int32) [(.long p0), (.long p1), (.long (9223372036854775806 : Int64))] (.long (0 : Int64)) := V301
        have N301 := Fr.snoc X301 N240 g_b237
        refine own_goto (pc' := 92) X301 hx (hb hby at_73) (by decide) rfl ?_
        refine own_new (pc' := 95) X301 hx hZ hown (own_w hw 2 rfl) (own_w hw 3 rfl) (own_w hw 4 rfl) e301 (hb hby at_92) (by decide) (by decide) rfl ?_
        intro T302 h302 b302 g302 X302 e302 E302 A302 D302
        have ne_b237_b302 : b237 ≠ b302 := Nat.ne_of_lt (Nat.lt_of_lt_of_le V301.lt (Nat.le_of_eq g302.symm))
        have ne_b302_b237 := ne_b237_b302.symm
        have g_b302 : n0 ≤ b302 := Nat.le_trans z301 (Nat.le_of_eq g302.symm)
        have z302 : n0 ≤ h302.size := Nat.le_trans z301 E302.1
        have F302_counts : Fld Z h302 b302 "com/example/eventual_leader/eventualleader/election/RecoveryCounts" "counts" "[J" .null := D302 (Or.inr (own_w hw 12 rfl)) (ty := (.array .long)) (by decide +kernel)
        refine own_dup (pc' := 96) X302 hx (hb hby at_95) rfl rfl ?_
        refine own_iconst (pc' := 97) X302 hx (3 : Int32) (hb hby at_96) rfl rfl ?_
        refine own_callN (pc' := 100) (W := 1) (y := (⟨"com/example/eventual_leader/eventualleader/election/RecoveryCounts", "<init>", "(I)V"⟩ : MethodName)) X302 hx hZ rfl hown (own_w hw 5 rfl) (own_w hw 6 rfl) (own_w hw 4 rfl) (own_w hw 7 rfl) (by decide) (conI l Z a0 hw b302 _ n0 z302 A302 F302_counts g_b302) e302 pd0 b302 [(.int (3 : Int32))] [(.ref b302)] rfl rfl rfl (Nat.le_of_eq rfl) (by decide) (by decide) (by rw [hml]; rfl) (hb hby at_97) (by decide) (by decide) rfl ?_
        intro v303 T303 L303 X303 q303
        obtain ⟨c303, k303, rfl, M303, K303, E303q, F303q, V303, g_c303, s303⟩ := q303
        have f304 := (V301.ext E302)
        have ne_b237_c303 : b237 ≠ c303 := Nat.ne_of_lt (Nat.lt_of_lt_of_le f304.lt s303)
        have ne_c303_b237 := ne_b237_c303.symm
        have ne_b302_c303 : b302 ≠ c303 := Nat.ne_of_lt (Nat.lt_of_lt_of_le A302.lt s303)
        have ne_c303_b302 := ne_b302_c303.symm
        obtain ⟨h303, e303⟩ : ∃ z, z = T303.heap := ⟨_, rfl⟩
        rw [← e303] at K303 E303q F303q V303
        have e303 := e303.symm
        have z303 : n0 ≤ h303.size := Nat.le_trans z302 K303.1
        have N303 := Fr.app N301 M303
        show own_WP _ _ _ _ _ _ _ (T303.setTop (mkF m 100 #[.val (.long p0), .second, .val (.long p1), .second, .val (.long p2), .second, .val (.int p3), .val (.int (3 : Int32)), .val (.int v236), .val (.ref b237), .unset] [(.ref b302)]))
        refine own_astore (pc' := 102) (l' := #[.val (.long p0), .second, .val (.long p1), .second, .val (.long p2), .second, .val (.int p3), .val (.int (3 : Int32)), .val (.int v236), .val (.ref b237), .val (.ref b302)]) X303 hx (hb hby at_100) rfl rfl rfl ?_
        refine own_aload (pc' := 104) X303 hx (hb hby at_102) rfl rfl rfl ?_
        refine own_iconst (pc' := 105) X303 hx (1 : Int32) (hb hby at_104) rfl rfl ?_
        refine own_aload (pc' := 107) X303 hx (hb hby at_105) rfl rfl rfl ?_
        refine own_iconst (pc' := 108) X303 hx (0 : Int32) (hb hby at_107) rfl rfl ?_
        have f305 := (f304.keep K303 (ninS ne_b237_b302 nin0))
        refine own_laload (pc' := 109) (v := (.long p0)) X303 hx hZ e303 f305 ⟨by decide, by decide⟩ rfl (hb hby at_108) rfl ?_
        refine own_callV (pc' := 112) (W := 0) (y := (⟨"com/example/eventual_leader/eventualleader/election/RecoveryCounts", "set", "(IJ)V"⟩ : MethodName)) (z := (⟨"com/example/eventual_leader/eventualleader/election/RecoveryCounts", "set", "(IJ)V"⟩ : MethodName)) X303 hx hZ hown (own_w hw 13 rfl) (own_w hw 14 rfl) (notFace_of_selects (args := #[]) (mvT hZ (own_w hw 16 rfl))) (own_w hw 16 rfl) (own_w hw 15 rfl) (own_w hw 4 rfl) (own_w hw 17 rfl) (by decide) E303q (conS l Z a0 hw b302 (1 : Int32) p0 _ n0 z303 c303 k303 [(.long (0 : Int64)), (.long (0 : Int64)), (.long (0 : Int64))] F303q V303 0 ⟨by decide, by decide⟩ rfl (Nat.le_of_ble_eq_true rfl) g_c303) e303 pd1 [(.int (1 : Int32)), (.long p0)] [] rfl rfl rfl (Nat.le_of_eq rfl) (by decide) (by decide) (by rw [hml]; rfl) (hb hby at_109) (by decide) (by decide) rfl ?_
        intro v306 T306 L306 X306 q306
        obtain ⟨rfl, M306, K306, V306⟩ := q306
        obtain ⟨h306, e306⟩ : ∃ z, z = T306.heap := ⟨_, rfl⟩
        rw [← e306] at K306 V306
        have e306 := e306.symm
        have z306 : n0 ≤ h306.size := Nat.le_trans z303 K306.1
        have V306 : Arv Z h306 c303 k303 .long 3 [(.long p0), (.long (0 : Int64)), (.long (0 : Int64))] (.long 0) := V306
        have N306 := Fr.app N303 M306
        show own_WP _ _ _ _ _ _ _ (T306.setTop (mkF m 112 #[.val (.long p0), .second, .val (.long p1), .second, .val (.long p2), .second, .val (.int p3), .val (.int (3 : Int32)), .val (.int v236), .val (.ref b237), .val (.ref b302)] []))
        refine own_aload (pc' := 114) X306 hx (hb hby at_112) rfl rfl rfl ?_
        refine own_iconst (pc' := 115) X306 hx (2 : Int32) (hb hby at_114) rfl rfl ?_
        refine own_aload (pc' := 117) X306 hx (hb hby at_115) rfl rfl rfl ?_
        refine own_iconst (pc' := 118) X306 hx (1 : Int32) (hb hby at_117) rfl rfl ?_
        have f307 := (f305.keep K306 (ninS ne_b237_c303 nin0))
        refine own_laload (pc' := 119) (v := (.long p1)) X306 hx hZ e306 f307 ⟨by decide, by decide⟩ rfl (hb hby at_118) rfl ?_
        have f309 := (F303q.keep K306 (ninS ne_b302_c303 nin0))
        have f310 := (E303q.keep K306)
        refine own_callV (pc' := 122) (W := 0) (y := (⟨"com/example/eventual_leader/eventualleader/election/RecoveryCounts", "set", "(IJ)V"⟩ : MethodName)) (z := (⟨"com/example/eventual_leader/eventualleader/election/RecoveryCounts", "set", "(IJ)V"⟩ : MethodName)) X306 hx hZ hown (own_w hw 13 rfl) (own_w hw 14 rfl) (notFace_of_selects (args := #[]) (mvT hZ (own_w hw 16 rfl))) (own_w hw 16 rfl) (own_w hw 15 rfl) (own_w hw 4 rfl) (own_w hw 17 rfl) (by decide) f310 (conS l Z a0 hw b302 (2 : Int32) p1 _ n0 z306 c303 k303 [(.long p0), (.long (0 : Int64)), (.long (0 : Int64))] f309 V306 1 ⟨by decide, by decide⟩ rfl (Nat.le_of_ble_eq_true rfl) g_c303) e306 pd1 [(.int (2 : Int32)), (.long p1)] [] rfl rfl rfl (Nat.le_of_eq rfl) (by decide) (by decide) (by rw [hml]; rfl) (hb hby at_119) (by decide) (by decide) rfl ?_
        intro v308 T308 L308 X308 q308
        obtain ⟨rfl, M308, K308, V308⟩ := q308
        obtain ⟨h308, e308⟩ : ∃ z, z = T308.heap := ⟨_, rfl⟩
        rw [← e308] at K308 V308
        have e308 := e308.symm
        have z308 : n0 ≤ h308.size := Nat.le_trans z306 K308.1
        have V308 : Arv Z h308 c303 k303 .long 3 [(.long p0), (.long p1), (.long (0 : Int64))] (.long 0) := V308
        have N308 := Fr.app N306 M308
        show own_WP _ _ _ _ _ _ _ (T308.setTop (mkF m 122 #[.val (.long p0), .second, .val (.long p1), .second, .val (.long p2), .second, .val (.int p3), .val (.int (3 : Int32)), .val (.int v236), .val (.ref b237), .val (.ref b302)] []))
        refine own_aload (pc' := 124) X308 hx (hb hby at_122) rfl rfl rfl ?_
        refine own_iconst (pc' := 125) X308 hx (3 : Int32) (hb hby at_124) rfl rfl ?_
        refine own_aload (pc' := 127) X308 hx (hb hby at_125) rfl rfl rfl ?_
        refine own_iconst (pc' := 128) X308 hx (2 : Int32) (hb hby at_127) rfl rfl ?_
        have f311 := (f307.keep K308 (ninS ne_b237_c303 nin0))
        refine own_laload (pc' := 129) (v := (.long (9223372036854775806 : Int64))) X308 hx hZ e308 f311 ⟨by decide, by decide⟩ rfl (hb hby at_128) rfl ?_
        have f313 := (f309.keep K308 (ninS ne_b302_c303 nin0))
        have f314 := (f310.keep K308)
        refine own_callV (pc' := 132) (W := 0) (y := (⟨"com/example/eventual_leader/eventualleader/election/RecoveryCounts", "set", "(IJ)V"⟩ : MethodName)) (z := (⟨"com/example/eventual_leader/eventualleader/election/RecoveryCounts", "set", "(IJ)V"⟩ : MethodName)) X308 hx hZ hown (own_w hw 13 rfl) (own_w hw 14 rfl) (notFace_of_selects (args := #[]) (mvT hZ (own_w hw 16 rfl))) (own_w hw 16 rfl) (own_w hw 15 rfl) (own_w hw 4 rfl) (own_w hw 17 rfl) (by decide) f314 (conS l Z a0 hw b302 (3 : Int32) (9223372036854775806 : Int64) _ n0 z308 c303 k303 [(.long p0), (.long p1), (.long (0 : Int64))] f313 V308 2 ⟨by decide, by decide⟩ rfl (Nat.le_of_ble_eq_true rfl) g_c303) e308 pd1 [(.int (3 : Int32)), (.long (9223372036854775806 : Int64))] [] rfl rfl rfl (Nat.le_of_eq rfl) (by decide) (by decide) (by rw [hml]; rfl) (hb hby at_129) (by decide) (by decide) rfl ?_
        intro v312 T312 L312 X312 q312
        obtain ⟨rfl, M312, K312, V312⟩ := q312
        obtain ⟨h312, e312⟩ : ∃ z, z = T312.heap := ⟨_, rfl⟩
        rw [← e312] at K312 V312
        have e312 := e312.symm
        have z312 : n0 ≤ h312.size := Nat.le_trans z308 K312.1
        have V312 : Arv Z h312 c303 k303 .long 3 [(.long p0), (.long p1), (.long (9223372036854775806 : Int64))] (.long 0) := V312
        have N312 := Fr.app N308 M312
        show own_WP _ _ _ _ _ _ _ (T312.setTop (mkF m 132 #[.val (.long p0), .second, .val (.long p1), .second, .val (.long p2), .second, .val (.int p3), .val (.int (3 : Int32)), .val (.int v236), .val (.ref b237), .val (.ref b302)] []))
        refine own_aload (pc' := 134) X312 hx (hb hby at_132) rfl rfl rfl ?_
        refine own_iload (pc' := 136) X312 hx (hb hby at_134) rfl rfl ?_
        have f316 := (f313.keep K312 (ninS ne_b302_c303 nin0))
        have f317 := (f314.keep K312)
        refine own_callV (pc' := 139) (W := 0) (y := (⟨"com/example/eventual_leader/eventualleader/election/RecoveryCounts", "increment", "(I)V"⟩ : MethodName)) (z := (⟨"com/example/eventual_leader/eventualleader/election/RecoveryCounts", "increment", "(I)V"⟩ : MethodName)) X312 hx hZ hown (own_w hw 18 rfl) (own_w hw 19 rfl) (notFace_of_selects (args := #[]) (mvT hZ (own_w hw 21 rfl))) (own_w hw 21 rfl) (own_w hw 20 rfl) (own_w hw 4 rfl) (own_w hw 22 rfl) (by decide) f317 (conN l Z a0 hw b302 (3 : Int32) _ n0 z312 c303 k303 [(.long p0), (.long p1), (.long (9223372036854775806 : Int64))] f316 V312 2 ⟨by decide, by decide⟩ rfl (Nat.le_of_ble_eq_true rfl) g_c303 (9223372036854775806 : Int64) rfl) e312 pd0 [(.int (3 : Int32))] [] rfl rfl rfl (Nat.le_of_eq rfl) (by decide) (by decide) (by rw [hml]; rfl) (hb hby at_136) (by decide) (by decide) rfl ?_
        intro v315 T315 L315 X315 q315
        obtain ⟨rfl, M315, K315, V315⟩ := q315
        obtain ⟨h315, e315⟩ : ∃ z, z = T315.heap := ⟨_, rfl⟩
        rw [← e315] at K315 V315
        have e315 := e315.symm
        have z315 : n0 ≤ h315.size := Nat.le_trans z312 K315.1
        have N315 := Fr.app N312 M315
        have hlt : (9223372036854775806 : Int64) < (9223372036854775807 : Int64) := by decide
        rw [if_pos hlt] at V315
        have V315 : Arv Z h315 c303 k303 .long 3 [(.long p0), (.long p1), (.long ((9223372036854775806 : Int64) + 1))] (.long 0) := V315
        show own_WP _ _ _ _ _ _ _ (T315.setTop (mkF m 139 #[.val (.long p0), .second, .val (.long p1), .second, .val (.long p2), .second, .val (.int p3), .val (.int (3 : Int32)), .val (.int v236), .val (.ref b237), .val (.ref b302)] []))
        refine own_aload (pc' := 141) X315 hx (hb hby at_139) rfl rfl rfl ?_
        refine own_iconst (pc' := 142) X315 hx (1 : Int32) (hb hby at_141) rfl rfl ?_
        have f319 := (f316.keep K315 (ninS ne_b302_c303 nin0))
        have f320 := (f317.keep K315)
        refine own_callV (pc' := 145) (W := 0) (y := (⟨"com/example/eventual_leader/eventualleader/election/RecoveryCounts", "of", "(I)J"⟩ : MethodName)) (z := (⟨"com/example/eventual_leader/eventualleader/election/RecoveryCounts", "of", "(I)J"⟩ : MethodName)) X315 hx hZ hown (own_w hw 24 rfl) (own_w hw 25 rfl) (notFace_of_selects (args := #[]) (mvT hZ (own_w hw 27 rfl))) (own_w hw 27 rfl) (own_w hw 26 rfl) (own_w hw 4 rfl) (own_w hw 28 rfl) (by decide) f320 (conO l Z a0 hw b302 (1 : Int32) _ c303 k303 [(.long p0), (.long p1), (.long ((9223372036854775806 : Int64) + 1))] f319 V315 0 ⟨by decide, by decide⟩ rfl p0 rfl) e315 pd2 [(.int (1 : Int32))] [] rfl rfl rfl (Nat.le_of_eq rfl) (by decide) (by decide) (by rw [hml]; rfl) (hb hby at_142) (by decide) (by decide) rfl ?_
        intro v318 T318 L318 X318 q318
        obtain ⟨r318, rfl, hr318, rfl, e318⟩ := q318
        have N318 := Fr.app N315 (Fr.nil n0)
        show own_WP _ _ _ _ _ _ _ (T318.setTop (mkF m 145 #[.val (.long p0), .second, .val (.long p1), .second, .val (.long p2), .second, .val (.int p3), .val (.int (3 : Int32)), .val (.int v236), .val (.ref b237), .val (.ref b302)] [(.long r318)]))
        refine own_iconst (pc' := 146) X318 hx (1 : Int32) (hb hby at_145) rfl rfl ?_
        refine own_iload (pc' := 148) X318 hx (hb hby at_146) rfl rfl ?_
        refine own_aload (pc' := 150) X318 hx (hb hby at_148) rfl rfl rfl ?_
        refine own_iconst (pc' := 151) X318 hx (0 : Int32) (hb hby at_150) rfl rfl ?_
        have f321 := ((f311.keep K312 (ninS ne_b237_c303 nin0)).keep K315 (ninS ne_b237_c303 nin0))
        refine own_laload (pc' := 152) (v := (.long p0)) X318 hx hZ e318 f321 ⟨by decide, by decide⟩ rfl (hb hby at_151) rfl ?_
        refine own_callS (pc' := 155) (W := 2) (y := (⟨"com/example/eventual_leader/eventualleader/election/RecoveryCountsIncrementPinLaw", "expect", "(IIJ)J"⟩ : MethodName)) X318 hx hZ hown (own_w hw 29 rfl) (own_w hw 30 rfl) (own_w hw 31 rfl) (own_w hw 32 rfl) (by decide) (conX l Z a0 hw (1 : Int32) (3 : Int32) p0 _ ) e318 pd3 [(.int (1 : Int32)), (.int (3 : Int32)), (.long p0)] [(.long r318)] rfl rfl rfl (Nat.le_of_eq rfl) (by decide) (by decide) (by rw [hml]; rfl) (hb hby at_152) (by decide) (by decide) rfl ?_
        intro v322 T322 L322 X322 q322
        obtain ⟨r322, rfl, hr322, rfl, e322⟩ := q322
        have N322 := Fr.app N318 (Fr.nil n0)
        show own_WP _ _ _ _ _ _ _ (T322.setTop (mkF m 155 #[.val (.long p0), .second, .val (.long p1), .second, .val (.long p2), .second, .val (.int p3), .val (.int (3 : Int32)), .val (.int v236), .val (.ref b237), .val (.ref b302)] [(.long r322), (.long r318)]))
        refine own_lcmp (pc' := 156) X322 hx (hb hby at_155) rfl ?_
        refine own_ifl_ne (pt := 203) (pf := 159) X322 hx (hb hby at_156) rfl (by decide) rfl (fun hc156 => absurd (by rw [hr318, hr322]; exact (own_exN (by decide)).symm) hc156) (fun hc156 => ?_)
        refine own_aload (pc' := 161) X322 hx (hb hby at_159) rfl rfl rfl ?_
        refine own_iconst (pc' := 162) X322 hx (2 : Int32) (hb hby at_161) rfl rfl ?_
        refine own_callV (pc' := 165) (W := 0) (y := (⟨"com/example/eventual_leader/eventualleader/election/RecoveryCounts", "of", "(I)J"⟩ : MethodName)) (z := (⟨"com/example/eventual_leader/eventualleader/election/RecoveryCounts", "of", "(I)J"⟩ : MethodName)) X322 hx hZ hown (own_w hw 24 rfl) (own_w hw 25 rfl) (notFace_of_selects (args := #[]) (mvT hZ (own_w hw 27 rfl))) (own_w hw 27 rfl) (own_w hw 26 rfl) (own_w hw 4 rfl) (own_w hw 28 rfl) (by decide) f320 (conO l Z a0 hw b302 (2 : Int32) _ c303 k303 [(.long p0), (.long p1), (.long ((9223372036854775806 : Int64) + 1))] f319 V315 1 ⟨by decide, by decide⟩ rfl p1 rfl) e322 pd2 [(.int (2 : Int32))] [] rfl rfl rfl (Nat.le_of_eq rfl) (by decide) (by decide) (by rw [hml]; rfl) (hb hby at_162) (by decide) (by decide) rfl ?_
        intro v323 T323 L323 X323 q323
        obtain ⟨r323, rfl, hr323, rfl, e323⟩ := q323
        have N323 := Fr.app N322 (Fr.nil n0)
        show own_WP _ _ _ _ _ _ _ (T323.setTop (mkF m 165 #[.val (.long p0), .second, .val (.long p1), .second, .val (.long p2), .second, .val (.int p3), .val (.int (3 : Int32)), .val (.int v236), .val (.ref b237), .val (.ref b302)] [(.long r323)]))
        refine own_iconst (pc' := 166) X323 hx (2 : Int32) (hb hby at_165) rfl rfl ?_
        refine own_iload (pc' := 168) X323 hx (hb hby at_166) rfl rfl ?_
        refine own_aload (pc' := 170) X323 hx (hb hby at_168) rfl rfl rfl ?_
        refine own_iconst (pc' := 171) X323 hx (1 : Int32) (hb hby at_170) rfl rfl ?_
        refine own_laload (pc' := 172) (v := (.long p1)) X323 hx hZ e323 f321 ⟨by decide, by decide⟩ rfl (hb hby at_171) rfl ?_
        refine own_callS (pc' := 175) (W := 2) (y := (⟨"com/example/eventual_leader/eventualleader/election/RecoveryCountsIncrementPinLaw", "expect", "(IIJ)J"⟩ : MethodName)) X323 hx hZ hown (own_w hw 29 rfl) (own_w hw 30 rfl) (own_w hw 31 rfl) (own_w hw 32 rfl) (by decide) (conX l Z a0 hw (2 : Int32) (3 : Int32) p1 _ ) e323 pd3 [(.int (2 : Int32)), (.int (3 : Int32)), (.long p1)] [(.long r323)] rfl rfl rfl (Nat.le_of_eq rfl) (by decide) (by decide) (by rw [hml]; rfl) (hb hby at_172) (by decide) (by decide) rfl ?_
        intro v324 T324 L324 X324 q324
        obtain ⟨r324, rfl, hr324, rfl, e324⟩ := q324
        have N324 := Fr.app N323 (Fr.nil n0)
        show own_WP _ _ _ _ _ _ _ (T324.setTop (mkF m 175 #[.val (.long p0), .second, .val (.long p1), .second, .val (.long p2), .second, .val (.int p3), .val (.int (3 : Int32)), .val (.int v236), .val (.ref b237), .val (.ref b302)] [(.long r324), (.long r323)]))
        refine own_lcmp (pc' := 176) X324 hx (hb hby at_175) rfl ?_
        refine own_ifl_ne (pt := 203) (pf := 179) X324 hx (hb hby at_176) rfl (by decide) rfl (fun hc176 => absurd (by rw [hr323, hr324]; exact (own_exN (by decide)).symm) hc176) (fun hc176 => ?_)
        refine own_aload (pc' := 181) X324 hx (hb hby at_179) rfl rfl rfl ?_
        refine own_iconst (pc' := 182) X324 hx (3 : Int32) (hb hby at_181) rfl rfl ?_
        refine own_callV (pc' := 185) (W := 0) (y := (⟨"com/example/eventual_leader/eventualleader/election/RecoveryCounts", "of", "(I)J"⟩ : MethodName)) (z := (⟨"com/example/eventual_leader/eventualleader/election/RecoveryCounts", "of", "(I)J"⟩ : MethodName)) X324 hx hZ hown (own_w hw 24 rfl) (own_w hw 25 rfl) (notFace_of_selects (args := #[]) (mvT hZ (own_w hw 27 rfl))) (own_w hw 27 rfl) (own_w hw 26 rfl) (own_w hw 4 rfl) (own_w hw 28 rfl) (by decide) f320 (conO l Z a0 hw b302 (3 : Int32) _ c303 k303 [(.long p0), (.long p1), (.long ((9223372036854775806 : Int64) + 1))] f319 V315 2 ⟨by decide, by decide⟩ rfl ((9223372036854775806 : Int64) + 1) rfl) e324 pd2 [(.int (3 : Int32))] [] rfl rfl rfl (Nat.le_of_eq rfl) (by decide) (by decide) (by rw [hml]; rfl) (hb hby at_182) (by decide) (by decide) rfl ?_
        intro v325 T325 L325 X325 q325
        obtain ⟨r325, rfl, hr325, rfl, e325⟩ := q325
        have N325 := Fr.app N324 (Fr.nil n0)
        show own_WP _ _ _ _ _ _ _ (T325.setTop (mkF m 185 #[.val (.long p0), .second, .val (.long p1), .second, .val (.long p2), .second, .val (.int p3), .val (.int (3 : Int32)), .val (.int v236), .val (.ref b237), .val (.ref b302)] [(.long r325)]))
        refine own_iconst (pc' := 186) X325 hx (3 : Int32) (hb hby at_185) rfl rfl ?_
        refine own_iload (pc' := 188) X325 hx (hb hby at_186) rfl rfl ?_
        refine own_aload (pc' := 190) X325 hx (hb hby at_188) rfl rfl rfl ?_
        refine own_iconst (pc' := 191) X325 hx (2 : Int32) (hb hby at_190) rfl rfl ?_
        refine own_laload (pc' := 192) (v := (.long (9223372036854775806 : Int64))) X325 hx hZ e325 f321 ⟨by decide, by decide⟩ rfl (hb hby at_191) rfl ?_
        refine own_callS (pc' := 195) (W := 2) (y := (⟨"com/example/eventual_leader/eventualleader/election/RecoveryCountsIncrementPinLaw", "expect", "(IIJ)J"⟩ : MethodName)) X325 hx hZ hown (own_w hw 29 rfl) (own_w hw 30 rfl) (own_w hw 31 rfl) (own_w hw 32 rfl) (by decide) (conX l Z a0 hw (3 : Int32) (3 : Int32) (9223372036854775806 : Int64) _ ) e325 pd3 [(.int (3 : Int32)), (.int (3 : Int32)), (.long (9223372036854775806 : Int64))] [(.long r325)] rfl rfl rfl (Nat.le_of_eq rfl) (by decide) (by decide) (by rw [hml]; rfl) (hb hby at_192) (by decide) (by decide) rfl ?_
        intro v326 T326 L326 X326 q326
        obtain ⟨r326, rfl, hr326, rfl, e326⟩ := q326
        have N326 := Fr.app N325 (Fr.nil n0)
        show own_WP _ _ _ _ _ _ _ (T326.setTop (mkF m 195 #[.val (.long p0), .second, .val (.long p1), .second, .val (.long p2), .second, .val (.int p3), .val (.int (3 : Int32)), .val (.int v236), .val (.ref b237), .val (.ref b302)] [(.long r326), (.long r325)]))
        refine own_lcmp (pc' := 196) X326 hx (hb hby at_195) rfl ?_
        refine own_ifl_ne (pt := 203) (pf := 199) X326 hx (hb hby at_196) rfl (by decide) rfl (fun hc196 => absurd (by rw [hr325, hr326]; exact (own_exY hlt).symm) hc196) (fun hc196 => ?_)
        refine own_iconst (pc' := 200) X326 hx (1 : Int32) (hb hby at_199) rfl rfl ?_
        refine own_goto (pc' := 204) X326 hx (hb hby at_200) (by decide) rfl ?_
        refine own_retN X326 hx hlk (t := .boolean) (by decide) hret (hb hby at_204) (by decide) (by decide) ?_
        exact ⟨rfl, N326⟩
    · skip
      refine own_aload (pc' := 46) X240 hx (hb hby at_44) rfl rfl rfl ?_
      refine own_iload (pc' := 48) X240 hx (hb hby at_46) rfl rfl ?_
      refine own_iconst (pc' := 49) X240 hx (1 : Int32) (hb hby at_48) rfl rfl ?_
      refine own_isub (pc' := 50) X240 hx (hb hby at_49) rfl ?_
      show own_WP _ _ _ _ _ _ _ (T240.setTop (mkF m 50 #[.val (.long p0), .second, .val (.long p1), .second, .val (.long p2), .second, .val (.int p3), .val (.int (3 : Int32)), .val (.int v236), .val (.ref b237), .unset] [(.int (2 : Int32)), (.ref b237)]))
      refine own_ldc2Long (pc' := 53) X240 hx hZ hown (own_w hw 33 rfl) (hb hby at_50) rfl ?_
      refine own_lastore (pc' := 54) X240 hx hZ e240 V240 ⟨by decide, by decide⟩ 2 rfl (Nat.le_of_ble_eq_true rfl) (hb hby at_53) rfl ?_
      intro T327 h327 X327 e327 W327 V327
      have z327 : n0 ≤ h327.size := Nat.le_trans z240 (Keep.of_wr W327).1
      have V327 : Arv Z h327 b237 k237 .long (3 : Int32) [(.long p0), (.long p1), (.long (9223372036854775807 : Int64))] (.long (0 : Int64)) := V327
      have N327 := Fr.snoc X327 N240 g_b237
      refine own_goto (pc' := 92) X327 hx (hb hby at_54) (by decide) rfl ?_
      refine own_new (pc' := 95) X327 hx hZ hown (own_w hw 2 rfl) (own_w hw 3 rfl) (own_w hw 4 rfl) e327 (hb hby at_92) (by decide) (by decide) rfl ?_
      intro T328 h328 b328 g328 X328 e328 E328 A328 D328
      have ne_b237_b328 : b237 ≠ b328 := Nat.ne_of_lt (Nat.lt_of_lt_of_le V327.lt (Nat.le_of_eq g328.symm))
      have ne_b328_b237 := ne_b237_b328.symm
      have g_b328 : n0 ≤ b328 := Nat.le_trans z327 (Nat.le_of_eq g328.symm)
      have z328 : n0 ≤ h328.size := Nat.le_trans z327 E328.1
      have F328_counts : Fld Z h328 b328 "com/example/eventual_leader/eventualleader/election/RecoveryCounts" "counts" "[J" .null := D328 (Or.inr (own_w hw 12 rfl)) (ty := (.array .long)) (by decide +kernel)
      refine own_dup (pc' := 96) X328 hx (hb hby at_95) rfl rfl ?_
      refine own_iconst (pc' := 97) X328 hx (3 : Int32) (hb hby at_96) rfl rfl ?_
      refine own_callN (pc' := 100) (W := 1) (y := (⟨"com/example/eventual_leader/eventualleader/election/RecoveryCounts", "<init>", "(I)V"⟩ : MethodName)) X328 hx hZ rfl hown (own_w hw 5 rfl) (own_w hw 6 rfl) (own_w hw 4 rfl) (own_w hw 7 rfl) (by decide) (conI l Z a0 hw b328 _ n0 z328 A328 F328_counts g_b328) e328 pd0 b328 [(.int (3 : Int32))] [(.ref b328)] rfl rfl rfl (Nat.le_of_eq rfl) (by decide) (by decide) (by rw [hml]; rfl) (hb hby at_97) (by decide) (by decide) rfl ?_
      intro v329 T329 L329 X329 q329
      obtain ⟨c329, k329, rfl, M329, K329, E329q, F329q, V329, g_c329, s329⟩ := q329
      have f330 := (V327.ext E328)
      have ne_b237_c329 : b237 ≠ c329 := Nat.ne_of_lt (Nat.lt_of_lt_of_le f330.lt s329)
      have ne_c329_b237 := ne_b237_c329.symm
      have ne_b328_c329 : b328 ≠ c329 := Nat.ne_of_lt (Nat.lt_of_lt_of_le A328.lt s329)
      have ne_c329_b328 := ne_b328_c329.symm
      obtain ⟨h329, e329⟩ : ∃ z, z = T329.heap := ⟨_, rfl⟩
      rw [← e329] at K329 E329q F329q V329
      have e329 := e329.symm
      have z329 : n0 ≤ h329.size := Nat.le_trans z328 K329.1
      have N329 := Fr.app N327 M329
      show own_WP _ _ _ _ _ _ _ (T329.setTop (mkF m 100 #[.val (.long p0), .second, .val (.long p1), .second, .val (.long p2), .second, .val (.int p3), .val (.int (3 : Int32)), .val (.int v236), .val (.ref b237), .unset] [(.ref b328)]))
      refine own_astore (pc' := 102) (l' := #[.val (.long p0), .second, .val (.long p1), .second, .val (.long p2), .second, .val (.int p3), .val (.int (3 : Int32)), .val (.int v236), .val (.ref b237), .val (.ref b328)]) X329 hx (hb hby at_100) rfl rfl rfl ?_
      refine own_aload (pc' := 104) X329 hx (hb hby at_102) rfl rfl rfl ?_
      refine own_iconst (pc' := 105) X329 hx (1 : Int32) (hb hby at_104) rfl rfl ?_
      refine own_aload (pc' := 107) X329 hx (hb hby at_105) rfl rfl rfl ?_
      refine own_iconst (pc' := 108) X329 hx (0 : Int32) (hb hby at_107) rfl rfl ?_
      have f331 := (f330.keep K329 (ninS ne_b237_b328 nin0))
      refine own_laload (pc' := 109) (v := (.long p0)) X329 hx hZ e329 f331 ⟨by decide, by decide⟩ rfl (hb hby at_108) rfl ?_
      refine own_callV (pc' := 112) (W := 0) (y := (⟨"com/example/eventual_leader/eventualleader/election/RecoveryCounts", "set", "(IJ)V"⟩ : MethodName)) (z := (⟨"com/example/eventual_leader/eventualleader/election/RecoveryCounts", "set", "(IJ)V"⟩ : MethodName)) X329 hx hZ hown (own_w hw 13 rfl) (own_w hw 14 rfl) (notFace_of_selects (args := #[]) (mvT hZ (own_w hw 16 rfl))) (own_w hw 16 rfl) (own_w hw 15 rfl) (own_w hw 4 rfl) (own_w hw 17 rfl) (by decide) E329q (conS l Z a0 hw b328 (1 : Int32) p0 _ n0 z329 c329 k329 [(.long (0 : Int64)), (.long (0 : Int64)), (.long (0 : Int64))] F329q V329 0 ⟨by decide, by decide⟩ rfl (Nat.le_of_ble_eq_true rfl) g_c329) e329 pd1 [(.int (1 : Int32)), (.long p0)] [] rfl rfl rfl (Nat.le_of_eq rfl) (by decide) (by decide) (by rw [hml]; rfl) (hb hby at_109) (by decide) (by decide) rfl ?_
      intro v332 T332 L332 X332 q332
      obtain ⟨rfl, M332, K332, V332⟩ := q332
      obtain ⟨h332, e332⟩ : ∃ z, z = T332.heap := ⟨_, rfl⟩
      rw [← e332] at K332 V332
      have e332 := e332.symm
      have z332 : n0 ≤ h332.size := Nat.le_trans z329 K332.1
      have V332 : Arv Z h332 c329 k329 .long 3 [(.long p0), (.long (0 : Int64)), (.long (0 : Int64))] (.long 0) := V332
      have N332 := Fr.app N329 M332
      show own_WP _ _ _ _ _ _ _ (T332.setTop (mkF m 112 #[.val (.long p0), .second, .val (.long p1), .second, .val (.long p2), .second, .val (.int p3), .val (.int (3 : Int32)), .val (.int v236), .val (.ref b237), .val (.ref b328)] []))
      refine own_aload (pc' := 114) X332 hx (hb hby at_112) rfl rfl rfl ?_
      refine own_iconst (pc' := 115) X332 hx (2 : Int32) (hb hby at_114) rfl rfl ?_
      refine own_aload (pc' := 117) X332 hx (hb hby at_115) rfl rfl rfl ?_
      refine own_iconst (pc' := 118) X332 hx (1 : Int32) (hb hby at_117) rfl rfl ?_
      have f333 := (f331.keep K332 (ninS ne_b237_c329 nin0))
      refine own_laload (pc' := 119) (v := (.long p1)) X332 hx hZ e332 f333 ⟨by decide, by decide⟩ rfl (hb hby at_118) rfl ?_
      have f335 := (F329q.keep K332 (ninS ne_b328_c329 nin0))
      have f336 := (E329q.keep K332)
      refine own_callV (pc' := 122) (W := 0) (y := (⟨"com/example/eventual_leader/eventualleader/election/RecoveryCounts", "set", "(IJ)V"⟩ : MethodName)) (z := (⟨"com/example/eventual_leader/eventualleader/election/RecoveryCounts", "set", "(IJ)V"⟩ : MethodName)) X332 hx hZ hown (own_w hw 13 rfl) (own_w hw 14 rfl) (notFace_of_selects (args := #[]) (mvT hZ (own_w hw 16 rfl))) (own_w hw 16 rfl) (own_w hw 15 rfl) (own_w hw 4 rfl) (own_w hw 17 rfl) (by decide) f336 (conS l Z a0 hw b328 (2 : Int32) p1 _ n0 z332 c329 k329 [(.long p0), (.long (0 : Int64)), (.long (0 : Int64))] f335 V332 1 ⟨by decide, by decide⟩ rfl (Nat.le_of_ble_eq_true rfl) g_c329) e332 pd1 [(.int (2 : Int32)), (.long p1)] [] rfl rfl rfl (Nat.le_of_eq rfl) (by decide) (by decide) (by rw [hml]; rfl) (hb hby at_119) (by decide) (by decide) rfl ?_
      intro v334 T334 L334 X334 q334
      obtain ⟨rfl, M334, K334, V334⟩ := q334
      obtain ⟨h334, e334⟩ : ∃ z, z = T334.heap := ⟨_, rfl⟩
      rw [← e334] at K334 V334
      have e334 := e334.symm
      have z334 : n0 ≤ h334.size := Nat.le_trans z332 K334.1
      have V334 : Arv Z h334 c329 k329 .long 3 [(.long p0), (.long p1), (.long (0 : Int64))] (.long 0) := V334
      have N334 := Fr.app N332 M334
      show own_WP _ _ _ _ _ _ _ (T334.setTop (mkF m 122 #[.val (.long p0), .second, .val (.long p1), .second, .val (.long p2), .second, .val (.int p3), .val (.int (3 : Int32)), .val (.int v236), .val (.ref b237), .val (.ref b328)] []))
      refine own_aload (pc' := 124) X334 hx (hb hby at_122) rfl rfl rfl ?_
      refine own_iconst (pc' := 125) X334 hx (3 : Int32) (hb hby at_124) rfl rfl ?_
      refine own_aload (pc' := 127) X334 hx (hb hby at_125) rfl rfl rfl ?_
      refine own_iconst (pc' := 128) X334 hx (2 : Int32) (hb hby at_127) rfl rfl ?_
      have f337 := (f333.keep K334 (ninS ne_b237_c329 nin0))
      refine own_laload (pc' := 129) (v := (.long (9223372036854775807 : Int64))) X334 hx hZ e334 f337 ⟨by decide, by decide⟩ rfl (hb hby at_128) rfl ?_
      have f339 := (f335.keep K334 (ninS ne_b328_c329 nin0))
      have f340 := (f336.keep K334)
      refine own_callV (pc' := 132) (W := 0) (y := (⟨"com/example/eventual_leader/eventualleader/election/RecoveryCounts", "set", "(IJ)V"⟩ : MethodName)) (z := (⟨"com/example/eventual_leader/eventualleader/election/RecoveryCounts", "set", "(IJ)V"⟩ : MethodName)) X334 hx hZ hown (own_w hw 13 rfl) (own_w hw 14 rfl) (notFace_of_selects (args := #[]) (mvT hZ (own_w hw 16 rfl))) (own_w hw 16 rfl) (own_w hw 15 rfl) (own_w hw 4 rfl) (own_w hw 17 rfl) (by decide) f340 (conS l Z a0 hw b328 (3 : Int32) (9223372036854775807 : Int64) _ n0 z334 c329 k329 [(.long p0), (.long p1), (.long (0 : Int64))] f339 V334 2 ⟨by decide, by decide⟩ rfl (Nat.le_of_ble_eq_true rfl) g_c329) e334 pd1 [(.int (3 : Int32)), (.long (9223372036854775807 : Int64))] [] rfl rfl rfl (Nat.le_of_eq rfl) (by decide) (by decide) (by rw [hml]; rfl) (hb hby at_129) (by decide) (by decide) rfl ?_
      intro v338 T338 L338 X338 q338
      obtain ⟨rfl, M338, K338, V338⟩ := q338
      obtain ⟨h338, e338⟩ : ∃ z, z = T338.heap := ⟨_, rfl⟩
      rw [← e338] at K338 V338
      have e338 := e338.symm
      have z338 : n0 ≤ h338.size := Nat.le_trans z334 K338.1
      have V338 : Arv Z h338 c329 k329 .long 3 [(.long p0), (.long p1), (.long (9223372036854775807 : Int64))] (.long 0) := V338
      have N338 := Fr.app N334 M338
      show own_WP _ _ _ _ _ _ _ (T338.setTop (mkF m 132 #[.val (.long p0), .second, .val (.long p1), .second, .val (.long p2), .second, .val (.int p3), .val (.int (3 : Int32)), .val (.int v236), .val (.ref b237), .val (.ref b328)] []))
      refine own_aload (pc' := 134) X338 hx (hb hby at_132) rfl rfl rfl ?_
      refine own_iload (pc' := 136) X338 hx (hb hby at_134) rfl rfl ?_
      have f342 := (f339.keep K338 (ninS ne_b328_c329 nin0))
      have f343 := (f340.keep K338)
      refine own_callV (pc' := 139) (W := 0) (y := (⟨"com/example/eventual_leader/eventualleader/election/RecoveryCounts", "increment", "(I)V"⟩ : MethodName)) (z := (⟨"com/example/eventual_leader/eventualleader/election/RecoveryCounts", "increment", "(I)V"⟩ : MethodName)) X338 hx hZ hown (own_w hw 18 rfl) (own_w hw 19 rfl) (notFace_of_selects (args := #[]) (mvT hZ (own_w hw 21 rfl))) (own_w hw 21 rfl) (own_w hw 20 rfl) (own_w hw 4 rfl) (own_w hw 22 rfl) (by decide) f343 (conN l Z a0 hw b328 (3 : Int32) _ n0 z338 c329 k329 [(.long p0), (.long p1), (.long (9223372036854775807 : Int64))] f342 V338 2 ⟨by decide, by decide⟩ rfl (Nat.le_of_ble_eq_true rfl) g_c329 (9223372036854775807 : Int64) rfl) e338 pd0 [(.int (3 : Int32))] [] rfl rfl rfl (Nat.le_of_eq rfl) (by decide) (by decide) (by rw [hml]; rfl) (hb hby at_136) (by decide) (by decide) rfl ?_
      intro v341 T341 L341 X341 q341
      obtain ⟨rfl, M341, K341, V341⟩ := q341
      obtain ⟨h341, e341⟩ : ∃ z, z = T341.heap := ⟨_, rfl⟩
      rw [← e341] at K341 V341
      have e341 := e341.symm
      have z341 : n0 ≤ h341.size := Nat.le_trans z338 K341.1
      have N341 := Fr.app N338 M341
      have hlt : ¬ (9223372036854775807 : Int64) < (9223372036854775807 : Int64) := by decide
      rw [if_neg hlt] at V341
      have V341 : Arv Z h341 c329 k329 .long 3 [(.long p0), (.long p1), (.long (9223372036854775807 : Int64))] (.long 0) := V341
      show own_WP _ _ _ _ _ _ _ (T341.setTop (mkF m 139 #[.val (.long p0), .second, .val (.long p1), .second, .val (.long p2), .second, .val (.int p3), .val (.int (3 : Int32)), .val (.int v236), .val (.ref b237), .val (.ref b328)] []))
      refine own_aload (pc' := 141) X341 hx (hb hby at_139) rfl rfl rfl ?_
      refine own_iconst (pc' := 142) X341 hx (1 : Int32) (hb hby at_141) rfl rfl ?_
      have f345 := (f342.keep K341 (ninS ne_b328_c329 nin0))
      have f346 := (f343.keep K341)
      refine own_callV (pc' := 145) (W := 0) (y := (⟨"com/example/eventual_leader/eventualleader/election/RecoveryCounts", "of", "(I)J"⟩ : MethodName)) (z := (⟨"com/example/eventual_leader/eventualleader/election/RecoveryCounts", "of", "(I)J"⟩ : MethodName)) X341 hx hZ hown (own_w hw 24 rfl) (own_w hw 25 rfl) (notFace_of_selects (args := #[]) (mvT hZ (own_w hw 27 rfl))) (own_w hw 27 rfl) (own_w hw 26 rfl) (own_w hw 4 rfl) (own_w hw 28 rfl) (by decide) f346 (conO l Z a0 hw b328 (1 : Int32) _ c329 k329 [(.long p0), (.long p1), (.long (9223372036854775807 : Int64))] f345 V341 0 ⟨by decide, by decide⟩ rfl p0 rfl) e341 pd2 [(.int (1 : Int32))] [] rfl rfl rfl (Nat.le_of_eq rfl) (by decide) (by decide) (by rw [hml]; rfl) (hb hby at_142) (by decide) (by decide) rfl ?_
      intro v344 T344 L344 X344 q344
      obtain ⟨r344, rfl, hr344, rfl, e344⟩ := q344
      have N344 := Fr.app N341 (Fr.nil n0)
      show own_WP _ _ _ _ _ _ _ (T344.setTop (mkF m 145 #[.val (.long p0), .second, .val (.long p1), .second, .val (.long p2), .second, .val (.int p3), .val (.int (3 : Int32)), .val (.int v236), .val (.ref b237), .val (.ref b328)] [(.long r344)]))
      refine own_iconst (pc' := 146) X344 hx (1 : Int32) (hb hby at_145) rfl rfl ?_
      refine own_iload (pc' := 148) X344 hx (hb hby at_146) rfl rfl ?_
      refine own_aload (pc' := 150) X344 hx (hb hby at_148) rfl rfl rfl ?_
      refine own_iconst (pc' := 151) X344 hx (0 : Int32) (hb hby at_150) rfl rfl ?_
      have f347 := ((f337.keep K338 (ninS ne_b237_c329 nin0)).keep K341 (ninS ne_b237_c329 nin0))
      refine own_laload (pc' := 152) (v := (.long p0)) X344 hx hZ e344 f347 ⟨by decide, by decide⟩ rfl (hb hby at_151) rfl ?_
      refine own_callS (pc' := 155) (W := 2) (y := (⟨"com/example/eventual_leader/eventualleader/election/RecoveryCountsIncrementPinLaw", "expect", "(IIJ)J"⟩ : MethodName)) X344 hx hZ hown (own_w hw 29 rfl) (own_w hw 30 rfl) (own_w hw 31 rfl) (own_w hw 32 rfl) (by decide) (conX l Z a0 hw (1 : Int32) (3 : Int32) p0 _ ) e344 pd3 [(.int (1 : Int32)), (.int (3 : Int32)), (.long p0)] [(.long r344)] rfl rfl rfl (Nat.le_of_eq rfl) (by decide) (by decide) (by rw [hml]; rfl) (hb hby at_152) (by decide) (by decide) rfl ?_
      intro v348 T348 L348 X348 q348
      obtain ⟨r348, rfl, hr348, rfl, e348⟩ := q348
      have N348 := Fr.app N344 (Fr.nil n0)
      show own_WP _ _ _ _ _ _ _ (T348.setTop (mkF m 155 #[.val (.long p0), .second, .val (.long p1), .second, .val (.long p2), .second, .val (.int p3), .val (.int (3 : Int32)), .val (.int v236), .val (.ref b237), .val (.ref b328)] [(.long r348), (.long r344)]))
      refine own_lcmp (pc' := 156) X348 hx (hb hby at_155) rfl ?_
      refine own_ifl_ne (pt := 203) (pf := 159) X348 hx (hb hby at_156) rfl (by decide) rfl (fun hc156 => absurd (by rw [hr344, hr348]; exact (own_exN (by decide)).symm) hc156) (fun hc156 => ?_)
      refine own_aload (pc' := 161) X348 hx (hb hby at_159) rfl rfl rfl ?_
      refine own_iconst (pc' := 162) X348 hx (2 : Int32) (hb hby at_161) rfl rfl ?_
      refine own_callV (pc' := 165) (W := 0) (y := (⟨"com/example/eventual_leader/eventualleader/election/RecoveryCounts", "of", "(I)J"⟩ : MethodName)) (z := (⟨"com/example/eventual_leader/eventualleader/election/RecoveryCounts", "of", "(I)J"⟩ : MethodName)) X348 hx hZ hown (own_w hw 24 rfl) (own_w hw 25 rfl) (notFace_of_selects (args := #[]) (mvT hZ (own_w hw 27 rfl))) (own_w hw 27 rfl) (own_w hw 26 rfl) (own_w hw 4 rfl) (own_w hw 28 rfl) (by decide) f346 (conO l Z a0 hw b328 (2 : Int32) _ c329 k329 [(.long p0), (.long p1), (.long (9223372036854775807 : Int64))] f345 V341 1 ⟨by decide, by decide⟩ rfl p1 rfl) e348 pd2 [(.int (2 : Int32))] [] rfl rfl rfl (Nat.le_of_eq rfl) (by decide) (by decide) (by rw [hml]; rfl) (hb hby at_162) (by decide) (by decide) rfl ?_
      intro v349 T349 L349 X349 q349
      obtain ⟨r349, rfl, hr349, rfl, e349⟩ := q349
      have N349 := Fr.app N348 (Fr.nil n0)
      show own_WP _ _ _ _ _ _ _ (T349.setTop (mkF m 165 #[.val (.long p0), .second, .val (.long p1), .second, .val (.long p2), .second, .val (.int p3), .val (.int (3 : Int32)), .val (.int v236), .val (.ref b237), .val (.ref b328)] [(.long r349)]))
      refine own_iconst (pc' := 166) X349 hx (2 : Int32) (hb hby at_165) rfl rfl ?_
      refine own_iload (pc' := 168) X349 hx (hb hby at_166) rfl rfl ?_
      refine own_aload (pc' := 170) X349 hx (hb hby at_168) rfl rfl rfl ?_
      refine own_iconst (pc' := 171) X349 hx (1 : Int32) (hb hby at_170) rfl rfl ?_
      refine own_laload (pc' := 172) (v := (.long p1)) X349 hx hZ e349 f347 ⟨by decide, by decide⟩ rfl (hb hby at_171) rfl ?_
      refine own_callS (pc' := 175) (W := 2) (y := (⟨"com/example/eventual_leader/eventualleader/election/RecoveryCountsIncrementPinLaw", "expect", "(IIJ)J"⟩ : MethodName)) X349 hx hZ hown (own_w hw 29 rfl) (own_w hw 30 rfl) (own_w hw 31 rfl) (own_w hw 32 rfl) (by decide) (conX l Z a0 hw (2 : Int32) (3 : Int32) p1 _ ) e349 pd3 [(.int (2 : Int32)), (.int (3 : Int32)), (.long p1)] [(.long r349)] rfl rfl rfl (Nat.le_of_eq rfl) (by decide) (by decide) (by rw [hml]; rfl) (hb hby at_172) (by decide) (by decide) rfl ?_
      intro v350 T350 L350 X350 q350
      obtain ⟨r350, rfl, hr350, rfl, e350⟩ := q350
      have N350 := Fr.app N349 (Fr.nil n0)
      show own_WP _ _ _ _ _ _ _ (T350.setTop (mkF m 175 #[.val (.long p0), .second, .val (.long p1), .second, .val (.long p2), .second, .val (.int p3), .val (.int (3 : Int32)), .val (.int v236), .val (.ref b237), .val (.ref b328)] [(.long r350), (.long r349)]))
      refine own_lcmp (pc' := 176) X350 hx (hb hby at_175) rfl ?_
      refine own_ifl_ne (pt := 203) (pf := 179) X350 hx (hb hby at_176) rfl (by decide) rfl (fun hc176 => absurd (by rw [hr349, hr350]; exact (own_exN (by decide)).symm) hc176) (fun hc176 => ?_)
      refine own_aload (pc' := 181) X350 hx (hb hby at_179) rfl rfl rfl ?_
      refine own_iconst (pc' := 182) X350 hx (3 : Int32) (hb hby at_181) rfl rfl ?_
      refine own_callV (pc' := 185) (W := 0) (y := (⟨"com/example/eventual_leader/eventualleader/election/RecoveryCounts", "of", "(I)J"⟩ : MethodName)) (z := (⟨"com/example/eventual_leader/eventualleader/election/RecoveryCounts", "of", "(I)J"⟩ : MethodName)) X350 hx hZ hown (own_w hw 24 rfl) (own_w hw 25 rfl) (notFace_of_selects (args := #[]) (mvT hZ (own_w hw 27 rfl))) (own_w hw 27 rfl) (own_w hw 26 rfl) (own_w hw 4 rfl) (own_w hw 28 rfl) (by decide) f346 (conO l Z a0 hw b328 (3 : Int32) _ c329 k329 [(.long p0), (.long p1), (.long (9223372036854775807 : Int64))] f345 V341 2 ⟨by decide, by decide⟩ rfl (9223372036854775807 : Int64) rfl) e350 pd2 [(.int (3 : Int32))] [] rfl rfl rfl (Nat.le_of_eq rfl) (by decide) (by decide) (by rw [hml]; rfl) (hb hby at_182) (by decide) (by decide) rfl ?_
      intro v351 T351 L351 X351 q351
      obtain ⟨r351, rfl, hr351, rfl, e351⟩ := q351
      have N351 := Fr.app N350 (Fr.nil n0)
      show own_WP _ _ _ _ _ _ _ (T351.setTop (mkF m 185 #[.val (.long p0), .second, .val (.long p1), .second, .val (.long p2), .second, .val (.int p3), .val (.int (3 : Int32)), .val (.int v236), .val (.ref b237), .val (.ref b328)] [(.long r351)]))
      refine own_iconst (pc' := 186) X351 hx (3 : Int32) (hb hby at_185) rfl rfl ?_
      refine own_iload (pc' := 188) X351 hx (hb hby at_186) rfl rfl ?_
      refine own_aload (pc' := 190) X351 hx (hb hby at_188) rfl rfl rfl ?_
      refine own_iconst (pc' := 191) X351 hx (2 : Int32) (hb hby at_190) rfl rfl ?_
      refine own_laload (pc' := 192) (v := (.long (9223372036854775807 : Int64))) X351 hx hZ e351 f347 ⟨by decide, by decide⟩ rfl (hb hby at_191) rfl ?_
      refine own_callS (pc' := 195) (W := 2) (y := (⟨"com/example/eventual_leader/eventualleader/election/RecoveryCountsIncrementPinLaw", "expect", "(IIJ)J"⟩ : MethodName)) X351 hx hZ hown (own_w hw 29 rfl) (own_w hw 30 rfl) (own_w hw 31 rfl) (own_w hw 32 rfl) (by decide) (conX l Z a0 hw (3 : Int32) (3 : Int32) (9223372036854775807 : Int64) _ ) e351 pd3 [(.int (3 : Int32)), (.int (3 : Int32)), (.long (9223372036854775807 : Int64))] [(.long r351)] rfl rfl rfl (Nat.le_of_eq rfl) (by decide) (by decide) (by rw [hml]; rfl) (hb hby at_192) (by decide) (by decide) rfl ?_
      intro v352 T352 L352 X352 q352
      obtain ⟨r352, rfl, hr352, rfl, e352⟩ := q352
      have N352 := Fr.app N351 (Fr.nil n0)
      show own_WP _ _ _ _ _ _ _ (T352.setTop (mkF m 195 #[.val (.long p0), .second, .val (.long p1), .second, .val (.long p2), .second, .val (.int p3), .val (.int (3 : Int32)), .val (.int v236), .val (.ref b237), .val (.ref b328)] [(.long r352), (.long r351)]))
      refine own_lcmp (pc' := 196) X352 hx (hb hby at_195) rfl ?_
      refine own_ifl_ne (pt := 203) (pf := 199) X352 hx (hb hby at_196) rfl (by decide) rfl (fun hc196 => absurd (by rw [hr351, hr352]; exact (own_exM hlt).symm) hc196) (fun hc196 => ?_)
      refine own_iconst (pc' := 200) X352 hx (1 : Int32) (hb hby at_199) rfl rfl ?_
      refine own_goto (pc' := 204) X352 hx (hb hby at_200) (by decide) rfl ?_
      refine own_retN X352 hx hlk (t := .boolean) (by decide) hret (hb hby at_204) (by decide) (by decide) ?_
      exact ⟨rfl, N352⟩
set_option maxRecDepth 65536 in
set_option maxHeartbeats 4000000 in
theorem comes_1 {Post : Tables → Env → Array Value → Jvm.State → Outcome → Jvm.State → Prop} (hpost : ∀ tb e args s v u, (limb_1_1.after args s (.returned v) u = true ∧ limb_1_2.after args s (.returned v) u = true ∧ True) → FrameEnd s (.returned v) u (Jvm.fieldLocs frame_1_writes args s ++ Jvm.arrayLocs frame_1_arrays args s ++ Jvm.staticLocs frame_1_statics s) 16 128 → Post tb e args s (.returned v) u) :
    ArmFor flags0 classFile x code maxLocals ret World_1 tables_1 room_1 Calls_1 rest_1 Pre_1 Post := by
  intro l hfl _ _ p e ha hc hk s m args below hf hA hF happ hP
  obtain ⟨hcalls, hrest, hpre⟩ := hP
  obtain ⟨-, -, -, hnamed, -, -, -, hat⟩ := (Spec.applies_iff hf).mp happ
  obtain ⟨hg, hn⟩ := and_e (Cond.before_iff.mp (show (Jvm.Cond.and given_1 narrow_1).before args s = true from hpre))
  obtain ⟨u1, u2⟩ := and_e hg
  obtain ⟨u3, u4⟩ := and_e u2
  obtain ⟨u5, u6⟩ := and_e u4
  obtain ⟨u7, u8⟩ := and_e u6
  obtain ⟨w0, w1, w2, w3, rfl⟩ : ∃ w0 w1 w2 w3 : Value, args = #[w0, w1, w2, w3] := by
    have hs : args.size = 4 := by simpa [Cond.value, given_1] using u1
    obtain ⟨L⟩ := args
    match L, hs with
    | [w0, w1, w2, w3], _ => exact ⟨w0, w1, w2, w3, rfl⟩
  have hw := fun d (hd : d ∈ tables_1) => atoms_spec (ws := Jvm.Cond.code x code maxLocals ret :: tables_1) hat d (List.mem_cons_of_mem _ hd)
  obtain ⟨i0, ei0⟩ := isL_v u3
  obtain rfl : w0 = (.long i0) := Option.some.inj ei0
  obtain ⟨i1, ei1⟩ := isL_v u5
  obtain rfl : w1 = (.long i1) := Option.some.inj ei1
  obtain ⟨i2, ei2⟩ := isL_v u7
  obtain rfl : w2 = (.long i2) := Option.some.inj ei2
  obtain ⟨i3, ei3⟩ := is_v u8
  obtain rfl : w3 = (.int i3) := Option.some.inj ei3
  obtain ⟨n, o, h1, h2, h3, _, L, rfl, ⟨rfl, N⟩, hq⟩ := con0 l s _ hw i0 i1 i2 i3 s.heap s.heap.size (Nat.le_refl _)  tables_1 p e ha hc hk s m _ below hf ((Spec.applies_iff_loose hf).mp happ).1 ⟨rfl, State.Warmed39.refl s, rfl⟩ trivial
  refine ⟨n, _, h1, h2, h3, hpost _ _ _ _ _ _ ⟨Cond.after_iff.mpr rfl, Cond.after_iff.mpr (eq_i res_at (Term.int_eval (1)) rfl), trivial⟩ ⟨hq.1, hq.2.1, (hq.2.2.sift fun y hy => Or.inr (N y hy)).mono (by decide) (by decide)⟩⟩
theorem main_1_1 : Claimed_1_1 := comes_1 fun _ _ _ _ _ _ h hF => ⟨h.1, hF⟩
theorem main_1_2 : Claimed_1_2 := comes_1 fun _ _ _ _ _ _ h hF => ⟨h.2.1, hF⟩
end Jvm.Pilot.@@N@@
namespace Jvm.Pilot.@@N@@
open Jvm Jvm.ClassFile Sem Op Lib Jvm.Free Jvm.Stand Jvm.Pilot.@@N@@.Jvm.D
/-! MADE BY PROGRAM (witnessworld.py) out of the Statement's table words and the real class files: 11 classes; the members and pool entries that the words name. The judged class is class 1, her method 2. -/
namespace start1
open Jvm.ClassFile
def u (s : String) : CpInfo := .utf8 (stringToUtf16 s)
/-- a pool by its gaps: so many unusable entries, then the entry; so many at the end -/
def gap : Nat → List CpInfo → List CpInfo
  | 0, r => r
  | n + 1, r => .unusable :: gap n r
def poolList (es : List (Nat × CpInfo)) (last : Nat) : List CpInfo := es.foldr (fun e r => gap e.1 (e.2 :: r)) (gap last [])
def pool (es : List (Nat × CpInfo)) (last : Nat) : Array CpInfo := ⟨poolList es last⟩
def fileOf (pool : Array CpInfo) (this : Nat) (attrs : Array Attribute := #[]) (ms : Array MethodInfo := #[]) (fl : Nat := 33) (sup : Nat := 0) (ifs : Array Nat := #[]) (fds : Array FieldInfo := #[]) : ClassFile where
  minorVersion := 0
  majorVersion := 65
  constantPool := pool
  accessFlags := fl
  thisClass := this
  superClass := sup
  interfaces := ifs
  fields := fds
  methods := ms
  attributes := attrs
def plain (name : String) (sup : Option ClassId) : Class where
  name := name
  kind := .ordinary
  loader := none
  accessFlags := 33
  super := sup
  interfaces := #[]
  cf := none
  fields := #[]
  methods := #[]
  instanceTypes := #[]
  staticTypes := #[]
  resolved := #[]
  callSites := []
  init := .initialized
  statics := none
  mirror := none

def pool0 : Array CpInfo := pool [(5, u "<init>"), (0, u "()V"), (1, .class_ 10), (1, u "java/lang/Object")] 113

def k0c0 : Code := { maxStack := 0, maxLocals := 1, code := object_method_1_code, exceptionTable := #[], attributes := #[] }
def k0m0 : Method := { name := "<init>", desc := "()V", sig := { parameters := [], returnType := none }, accessFlags := 1, code := some k0c0 }
/-- java/lang/Object -/
def k0 : Class := { plain "java/lang/Object" none with
  accessFlags := 33
  interfaces := #[]
  cf := some (fileOf pool0 8 #[] #[{ accessFlags := 1, nameIndex := 5, descriptorIndex := 6, attributes := #[] }] 33 0 #[] #[])
  fields := #[]
  methods := #[k0m0]
  instanceTypes := #[]
  staticTypes := #[]
  resolved := Array.replicate 124 none
  statics := none }

def pool1 : Array CpInfo := pool [(2, .class_ 4), (1, u "java/lang/Object"), (0, u "<init>"), (0, u "()V"), (2, .long 9223372036854775807), (1, .integer 2147483647), (0, .long 9223372036854775806), (1, .long 9223372036854775808), (1, .class_ 17), (0, u "com/example/eventual_leader/eventualleader/election/RecoveryCounts"), (0, .methodref 16 19), (0, .nameAndType 5 20), (0, u "(I)V"), (0, .methodref 16 22), (0, .nameAndType 23 24), (0, u "set"), (0, u "(IJ)V"), (0, .methodref 16 26), (0, .nameAndType 27 20), (0, u "increment"), (0, .methodref 16 29), (0, .nameAndType 30 31), (0, u "of"), (0, u "(I)J"), (0, .methodref 33 34), (0, .class_ 35), (0, .nameAndType 36 37), (0, u "com/example/eventual_leader/eventualleader/election/RecoveryCountsIncrementPinLaw"), (0, u "expect"), (0, u "(IIJ)J"), (3, u "law"), (0, u "(JJJI)Z")] 4

def k1m0 : Method := { name := "<init>", desc := "()V", sig := { parameters := [], returnType := none }, accessFlags := 1, code := none }
def k1c1 : Code := { maxStack := 4, maxLocals := 4, code := method_2_code, exceptionTable := #[], attributes := #[] }
def k1m1 : Method := { name := "expect", desc := "(IIJ)J", sig := { parameters := [.int, .int, .long], returnType := some .long }, accessFlags := 10, code := some k1c1 }
def k1c2 : Code := { maxStack := 6, maxLocals := 11, code := code, exceptionTable := #[], attributes := #[] }
def k1m2 : Method := { name := "law", desc := "(JJJI)Z", sig := { parameters := [.long, .long, .long, .int], returnType := some .boolean }, accessFlags := 9, code := some k1c2 }
/-- com/example/eventual_leader/eventualleader/election/RecoveryCountsIncrementPinLaw -/
def k1 : Class := { plain "com/example/eventual_leader/eventualleader/election/RecoveryCountsIncrementPinLaw" (some 0) with
  accessFlags := 49
  interfaces := #[]
  cf := some (fileOf pool1 33 #[] #[{ accessFlags := 1, nameIndex := 5, descriptorIndex := 6, attributes := #[] }, { accessFlags := 10, nameIndex := 36, descriptorIndex := 37, attributes := #[] }, { accessFlags := 9, nameIndex := 41, descriptorIndex := 42, attributes := #[] }] 49 2 #[] #[])
  fields := #[]
  methods := #[k1m0, k1m1, k1m2]
  instanceTypes := #[]
  staticTypes := #[]
  resolved := Array.replicate 47 none
  statics := none }

def pool2 : Array CpInfo := pool [(1, .methodref 2 3), (0, .class_ 4), (0, .nameAndType 5 6), (0, u "java/lang/Object"), (0, u "<init>"), (0, u "()V"), (0, .fieldref 8 9), (0, .class_ 10), (0, .nameAndType 11 12), (0, u "com/example/eventual_leader/eventualleader/election/RecoveryCounts"), (0, u "counts"), (0, u "[J"), (2, .long 9223372036854775807), (6, u "(I)J"), (8, u "of"), (12, u "(I)V"), (2, u "set"), (0, u "(IJ)V"), (0, u "increment")] 7

def k2c0 : Code := { maxStack := 2, maxLocals := 2, code := prog_19_method_1_code, exceptionTable := #[], attributes := #[] }
def k2m0 : Method := { name := "<init>", desc := "(I)V", sig := { parameters := [.int], returnType := none }, accessFlags := 0, code := some k2c0 }
def k2c1 : Code := { maxStack := 3, maxLocals := 2, code := prog_19_method_2_code, exceptionTable := #[], attributes := #[] }
def k2m1 : Method := { name := "of", desc := "(I)J", sig := { parameters := [.int], returnType := some .long }, accessFlags := 0, code := some k2c1 }
def k2c2 : Code := { maxStack := 4, maxLocals := 4, code := prog_19_method_3_code, exceptionTable := #[], attributes := #[] }
def k2m2 : Method := { name := "set", desc := "(IJ)V", sig := { parameters := [.int, .long], returnType := none }, accessFlags := 0, code := some k2c2 }
def k2c3 : Code := { maxStack := 6, maxLocals := 2, code := prog_19_method_4_code, exceptionTable := #[], attributes := #[] }
def k2m3 : Method := { name := "increment", desc := "(I)V", sig := { parameters := [.int], returnType := none }, accessFlags := 0, code := some k2c3 }
/-- com/example/eventual_leader/eventualleader/election/RecoveryCounts -/
def k2 : Class := { plain "com/example/eventual_leader/eventualleader/election/RecoveryCounts" (some 0) with
  accessFlags := 48
  interfaces := #[]
  cf := some (fileOf pool2 8 #[] #[{ accessFlags := 0, nameIndex := 5, descriptorIndex := 44, attributes := #[] }, { accessFlags := 0, nameIndex := 31, descriptorIndex := 22, attributes := #[] }, { accessFlags := 0, nameIndex := 47, descriptorIndex := 48, attributes := #[] }, { accessFlags := 0, nameIndex := 49, descriptorIndex := 44, attributes := #[] }] 48 2 #[] #[{ accessFlags := 18, nameIndex := 11, descriptorIndex := 12, attributes := #[] }])
  fields := #[{ name := "counts", type := (.array .long), accessFlags := 18, slot := 0, constantValue := 0 }]
  methods := #[k2m0, k2m1, k2m2, k2m3]
  instanceTypes := #[(.array .long)]
  staticTypes := #[]
  resolved := Array.replicate 57 none
  statics := none }

def pool3 : Array CpInfo := pool [(1, u "java/lang/Cloneable"), (0, .class_ 1), (0, u "java/lang/Object"), (0, .class_ 3)] 3

/-- java/lang/Cloneable -/
def k3 : Class := { plain "java/lang/Cloneable" (some 0) with
  accessFlags := 1537
  interfaces := #[]
  cf := some (fileOf pool3 2 #[] #[] 1537 4 #[] #[])
  fields := #[]
  methods := #[]
  instanceTypes := #[]
  staticTypes := #[]
  resolved := Array.replicate 8 none
  statics := none }

def pool4 : Array CpInfo := pool [(1, u "java/io/Serializable"), (0, .class_ 1), (0, u "java/lang/Object"), (0, .class_ 3)] 3

/-- java/io/Serializable -/
def k4 : Class := { plain "java/io/Serializable" (some 0) with
  accessFlags := 1537
  interfaces := #[]
  cf := some (fileOf pool4 2 #[] #[] 1537 4 #[] #[])
  fields := #[]
  methods := #[]
  instanceTypes := #[]
  staticTypes := #[]
  resolved := Array.replicate 8 none
  statics := none }

/-- the primitive byte -/
def k5 : Class := { plain "byte" none with kind := .primitive 'B', accessFlags := 0x411 }
/-- [B -/
def k6 : Class := { plain "[B" (some 0) with kind := .array 5 .byte, interfaces := #[3, 4], accessFlags := 1041 }

/-- the primitive int -/
def k7 : Class := { plain "int" none with kind := .primitive 'I', accessFlags := 0x411 }
/-- [I -/
def k8 : Class := { plain "[I" (some 0) with kind := .array 7 .int, interfaces := #[3, 4], accessFlags := 1041 }

/-- the primitive long -/
def k9 : Class := { plain "long" none with kind := .primitive 'J', accessFlags := 0x411 }
/-- [J -/
def k10 : Class := { plain "[J" (some 0) with kind := .array 9 .long, interfaces := #[3, 4], accessFlags := 1041 }

def heap : Heap := #[]
def classes : Array Class := #[k0, k1, k2, k3, k4, k5, k6, k7, k8, k9, k10]
def interned : List (Array UInt16 × Addr) := []
def slotsUsed : Nat := 0
def theMethod : MethodId := ⟨1, 2⟩
def args0 : Array Value := #[.long 5, .long 3, .long 4, .int 1]
def aboutOver (below : List Frame) : State where
  vm := { classes := classes, interned := interned.toArray }
  heap := heap
  slotsUsed := slotsUsed
  threads := #[{ frames := .invoking theMethod args0 :: below }]
def below0 : List Frame := [.native { method := ⟨0, 0⟩, args := #[] }]
def about1 : State := aboutOver below0
def p0 : Program := .bare "" "" ""
def e0 : Env := launch0.env 0 0 0
theorem w_frames : about1.frames = Frame.invoking theMethod args0 :: below0 := rfl
set_option maxRecDepth 65536 in
theorem w_args : argsFit about1.vm theMethod args0 = true := by decide +kernel
set_option maxRecDepth 65536 in
theorem w_heap : heapFits about1 = true := by decide +kernel
set_option maxRecDepth 65536 in
theorem w_runnable : about1.curStatus? = some .runnable := by decide +kernel
set_option maxRecDepth 65536 in
theorem w_alone : about1.alone = true := by decide +kernel
set_option maxRecDepth 65536 in
theorem w_named : about1.methodNamed? x = some theMethod := by decide +kernel
set_option maxRecDepth 65536 in
theorem w_hears : about1.hears theMethod below0 = true := by decide +kernel
set_option maxRecDepth 65536 in
theorem w_ripe : about1.ripe theMethod args0 below0 = true := by decide +kernel
theorem w_running : about1.status = .running := rfl
set_option maxRecDepth 65536 in
theorem w_room : about1.hasRoom e0.platform room_1 = true :=
  launch0.hasRoom_least _ room_1 (by decide +kernel) (by decide +kernel) (by decide +kernel) (by decide +kernel) (by decide +kernel) (by decide +kernel)
theorem allAtoms_all (ts : List Jvm.Cond) (a : Array Jvm.Value) (st : Jvm.State) : (allAtoms ts).before a st = ts.all (fun c => c.before a st) := by
  induction ts with
  | nil => rfl
  | cons c t ih =>
    show (Jvm.Cond.and c (allAtoms t)).before a st = _
    rw [Jvm.Cond.before_and, ih, List.all_cons]
def words1 : List Jvm.Cond := Jvm.Cond.code x code maxLocals ret :: tables_1
/-- a 'code' word, met by the world's own term for the bytes: nothing is compared byte by byte -/
theorem code_word {y : MethodName} {bytes : ByteArray} {mx : Nat} {rt : Option FieldType} {a : Array Value} {s : State} {m : MethodId} {meth : Method} {c : Code} (h1 : s.methodNamed? y = some m) (h2 : s.vm.method? m = some meth) (h3 : meth.code = some c) (h4 : c.code = bytes)
    (h5 : (c.maxLocals == mx && c.exceptionTable.isEmpty && decide (c.maxStack ≤ mostOperands) && decide (meth.sig.returnType = rt) && !meth.locks && decide (parseMethodDescriptor y.desc = some meth.sig)) = true) : (Jvm.Cond.code y bytes mx rt).before a s = true := by
  simp only [Bool.and_eq_true, beq_iff_eq, Bool.not_eq_true', decide_eq_true_eq] at h5
  obtain ⟨⟨⟨⟨⟨g1, g2⟩, g3⟩, g4⟩, g5⟩, g6⟩ := h5
  simp [Cond.before, Cond.holds, Cond.value, h1, h2, h3, h4, g1, g2, g3, g4, g5, g6]
def isCode : Jvm.Cond → Bool
  | .code _ _ _ _ => true
  | _ => false
theorem all_split {L : List Jvm.Cond} {P : Jvm.Cond → Bool} (h1 : L.all (fun c => isCode c || P c) = true) (h2 : ∀ c ∈ L.filter isCode, P c = true) : L.all P = true := by
  refine List.all_eq_true.mpr fun c hc => ?_
  have h := List.all_eq_true.mp h1 c hc
  rcases Bool.eq_false_or_eq_true (isCode c) with hi | hi
  · exact h2 c (List.mem_filter.mpr ⟨hc, hi⟩)
  · simpa [hi] using h
set_option maxRecDepth 65536 in
theorem w_c0 : (Jvm.Cond.code x code maxLocals ret).before args0 about1 = true := code_word (m := ⟨1, 2⟩) (meth := k1m2) (c := k1c2) (by decide +kernel) rfl rfl rfl (by decide +kernel)
set_option maxRecDepth 65536 in
theorem w_c1 : (Jvm.Cond.code ({ cls := "com/example/eventual_leader/eventualleader/election/RecoveryCounts", name := "<init>", desc := "(I)V" } : Jvm.MethodName) prog_19_method_1_code (2 : Nat) (Option.none : Option Jvm.ClassFile.FieldType)).before args0 about1 = true := code_word (m := ⟨2, 0⟩) (meth := k2m0) (c := k2c0) (by decide +kernel) rfl rfl rfl (by decide +kernel)
set_option maxRecDepth 65536 in
theorem w_c2 : (Jvm.Cond.code ({ cls := "java/lang/Object", name := "<init>", desc := "()V" } : Jvm.MethodName) object_method_1_code (1 : Nat) (Option.none : Option Jvm.ClassFile.FieldType)).before args0 about1 = true := code_word (m := ⟨0, 0⟩) (meth := k0m0) (c := k0c0) (by decide +kernel) rfl rfl rfl (by decide +kernel)
set_option maxRecDepth 65536 in
theorem w_c3 : (Jvm.Cond.code ({ cls := "com/example/eventual_leader/eventualleader/election/RecoveryCounts", name := "set", desc := "(IJ)V" } : Jvm.MethodName) prog_19_method_3_code (4 : Nat) (Option.none : Option Jvm.ClassFile.FieldType)).before args0 about1 = true := code_word (m := ⟨2, 2⟩) (meth := k2m2) (c := k2c2) (by decide +kernel) rfl rfl rfl (by decide +kernel)
set_option maxRecDepth 65536 in
theorem w_c4 : (Jvm.Cond.code ({ cls := "com/example/eventual_leader/eventualleader/election/RecoveryCounts", name := "increment", desc := "(I)V" } : Jvm.MethodName) prog_19_method_4_code (2 : Nat) (Option.none : Option Jvm.ClassFile.FieldType)).before args0 about1 = true := code_word (m := ⟨2, 3⟩) (meth := k2m3) (c := k2c3) (by decide +kernel) rfl rfl rfl (by decide +kernel)
set_option maxRecDepth 65536 in
theorem w_c5 : (Jvm.Cond.code ({ cls := "com/example/eventual_leader/eventualleader/election/RecoveryCounts", name := "of", desc := "(I)J" } : Jvm.MethodName) prog_19_method_2_code (2 : Nat) (Option.some Jvm.ClassFile.FieldType.long)).before args0 about1 = true := code_word (m := ⟨2, 1⟩) (meth := k2m1) (c := k2c1) (by decide +kernel) rfl rfl rfl (by decide +kernel)
set_option maxRecDepth 65536 in
theorem w_c6 : (Jvm.Cond.code ({ cls := "com/example/eventual_leader/eventualleader/election/RecoveryCountsIncrementPinLaw", name := "expect", desc := "(IIJ)J" } : Jvm.MethodName) method_2_code (4 : Nat) (Option.some Jvm.ClassFile.FieldType.long)).before args0 about1 = true := code_word (m := ⟨1, 1⟩) (meth := k1m1) (c := k1c1) (by decide +kernel) rfl rfl rfl (by decide +kernel)
def codes1 : List Jvm.Cond := [Jvm.Cond.code x code maxLocals ret, Jvm.Cond.code ({ cls := "com/example/eventual_leader/eventualleader/election/RecoveryCounts", name := "<init>", desc := "(I)V" } : Jvm.MethodName) prog_19_method_1_code (2 : Nat) (Option.none : Option Jvm.ClassFile.FieldType), Jvm.Cond.code ({ cls := "java/lang/Object", name := "<init>", desc := "()V" } : Jvm.MethodName) object_method_1_code (1 : Nat) (Option.none : Option Jvm.ClassFile.FieldType), Jvm.Cond.code ({ cls := "com/example/eventual_leader/eventualleader/election/RecoveryCounts", name := "set", desc := "(IJ)V" } : Jvm.MethodName) prog_19_method_3_code (4 : Nat) (Option.none : Option Jvm.ClassFile.FieldType), Jvm.Cond.code ({ cls := "com/example/eventual_leader/eventualleader/election/RecoveryCounts", name := "increment", desc := "(I)V" } : Jvm.MethodName) prog_19_method_4_code (2 : Nat) (Option.none : Option Jvm.ClassFile.FieldType), Jvm.Cond.code ({ cls := "com/example/eventual_leader/eventualleader/election/RecoveryCounts", name := "of", desc := "(I)J" } : Jvm.MethodName) prog_19_method_2_code (2 : Nat) (Option.some Jvm.ClassFile.FieldType.long), Jvm.Cond.code ({ cls := "com/example/eventual_leader/eventualleader/election/RecoveryCountsIncrementPinLaw", name := "expect", desc := "(IIJ)J" } : Jvm.MethodName) method_2_code (4 : Nat) (Option.some Jvm.ClassFile.FieldType.long)]
set_option maxRecDepth 65536 in
theorem codes_eq : words1.filter isCode = codes1 := rfl
theorem w_codes : ∀ c ∈ words1.filter isCode, c.before args0 about1 = true := by
  rw [codes_eq]
  intro c hc
  simp only [codes1, List.mem_cons, List.not_mem_nil, or_false] at hc
  rcases hc with rfl | rfl | rfl | rfl | rfl | rfl | rfl
  · exact w_c0
  · exact w_c1
  · exact w_c2
  · exact w_c3
  · exact w_c4
  · exact w_c5
  · exact w_c6
set_option maxRecDepth 65536 in
theorem w_t1 : (words1.take 24).all (fun c => isCode c || c.before args0 about1) = true := by decide +kernel
set_option maxRecDepth 65536 in
theorem w_t2 : (words1.drop 24).all (fun c => isCode c || c.before args0 about1) = true := by decide +kernel
theorem w_tables : (allAtoms (Jvm.Cond.code x code maxLocals ret :: tables_1)).before args0 about1 = true := by
  rw [allAtoms_all]
  show words1.all (fun c => c.before args0 about1) = true
  refine all_split ?_ w_codes
  rw [← List.take_append_drop 24 words1, List.all_append, w_t1, w_t2]
  rfl
set_option maxRecDepth 65536 in
theorem w_case : (Jvm.Cond.and given_1 narrow_1).before args0 about1 = true := by decide +kernel
theorem w_applies : (headSpec (Jvm.Cond.code x code maxLocals ret :: tables_1) room_1).applies x e0.platform about1 = true :=
  (Spec.applies_iff w_frames).mpr ⟨w_running, w_runnable, w_alone, w_named, w_hears, w_ripe, w_room, w_tables⟩
theorem atStart : AtStart classFile x code maxLocals ret World_1 tables_1 room_1 Calls_1 rest_1 Pre_1 launch0 p0 e0 about1 theMethod args0 below0 :=
  ⟨lists_1, trivial, launch0.admits_env _ _ _, launch0.least_env, fairChoices_fair.cas, fairChoices_fair.clock, w_frames, w_args, w_heap, w_applies, trivial, trivial, w_case⟩
end start1
theorem witness_1 : WitnessClaimed_1 := ⟨start1.p0, start1.e0, start1.about1, start1.theMethod, start1.args0, start1.below0, start1.atStart⟩
end Jvm.Pilot.@@N@@
