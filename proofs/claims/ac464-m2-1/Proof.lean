import JvmDerived
import JvmDerived.Pilot.@@N@@Statement
import JvmDerived.Pilot.@@N@@Code
set_option linter.unusedVariables false
set_option linter.unusedSimpArgs false
namespace Jvm.Pilot.@@N@@
open Jvm Jvm.ClassFile Sem Op Lib Jvm.Free Jvm.Stand Jvm.LawKit Jvm.RoadKit Bundle Jvm.Pilot.@@N@@.Jvm.D
/-! own_: what is left of a walk, read forwards -/
def own_WP (p : Program) (e : Env) (below : List Frame) (s : State) (Q : Option Value → Heap → List Loc → Prop) (k n : Nat) (a : State) : Prop :=
  ∃ s₂ o, Steps p.tables e below a s₂ ∧ s₂.status = .running ∧ Ended s₂ below o ∧ ∃ v L, o = .returned v ∧ Q v s₂.heap L ∧ FrameEnd s o s₂ L k n
def own_Con (l : Launch) (Z : State) (y : MethodName) (bytes : ByteArray) (maxL : Nat) (ret : Option FieldType) (rm : Room) (as' : Array Value) (h0 : Heap) (Q : Option Value → Heap → List Loc → Prop) : Prop :=
  ∀ ws, MetFree l y (head1 (Jvm.Cond.code y bytes maxL ret :: ws) rm) (fun a U => a = as' ∧ Z.Warmed39 U.vm ∧ U.heap = h0) (fun _ _ _ _ _ => True) (fun _ U o U' => ∃ v L, o = .returned v ∧ Q v U'.heap L ∧ FrameEnd U o U' L rm.cells rm.slots)
theorem own_Con_of {l : Launch} {Z : State} {y : MethodName} {bytes : ByteArray} {maxL : Nat} {ret : Option FieldType} {rm : Room} {as' : Array Value} {h0 : Heap} {Q : Option Value → Heap → List Loc → Prop} (hp : plainFor y = true)
    (hb : ∀ (p : Program) (e : Env) (s : State) (m : MethodId) (below : List Frame) (meth : Method) (c : Code) (s₁ : State), Stand p l e rm s m as' below meth c s₁ [] 0 0 → p.tables.exec = Jvm.exec → c.code = bytes → c.maxLocals = maxL → meth.sig.returnType = ret → meth.locks = false → meth.name = y.name → s.vm.findClass y.cls = some m.cls → Z.Warmed39 s.vm → s₁.heap = h0 →
      own_WP p e below s Q rm.cells rm.slots (s₁.setTop (entryFrame m as' maxL))) : own_Con l Z y bytes maxL ret rm as' h0 Q := by
  intro ws
  refine MetFree.of_bodySF hp hisR ?_
  intro p e s m args below meth c s₁ Bd hml0 hP hK
  obtain ⟨rfl, hZ, hh⟩ := hP
  exact hb p e s m below meth c s₁ (Stand.of_body Bd) Bd.exec Bd.bytes hml0 Bd.returns Bd.notSynchronized (name_of_methodNamed Bd.named Bd.method).1 (findClass_of_methodNamed Bd.named) hZ (by rw [← hh, Bd.state]; rfl)
theorem own_Con_mono {l : Launch} {Z : State} {y : MethodName} {bytes : ByteArray} {maxL : Nat} {ret : Option FieldType} {rm : Room} {as' : Array Value} {h0 : Heap} {Q Q' : Option Value → Heap → List Loc → Prop} (C : own_Con l Z y bytes maxL ret rm as' h0 Q) (hq : ∀ v h L, Q v h L → Q' v h L) : own_Con l Z y bytes maxL ret rm as' h0 Q' := by
  intro ws p e ha hc hk s m args below hf happ hP hK
  obtain ⟨n, o, h1, h2, h3, v, L, h4, h5, h6⟩ := C ws p e ha hc hk s m args below hf happ hP hK
  exact ⟨n, o, h1, h2, h3, v, L, h4, hq _ _ _ h5, h6⟩
theorem own_w {Z : State} {a0 : Array Value} {ts : List Jvm.Cond} {d : Jvm.Cond} (hw : ∀ d ∈ ts, d.before a0 Z = true) (i : Nat) (hi : ts[i]? = some d) : d.before a0 Z = true := hw _ (List.mem_of_getElem? hi)
section OwnWP
variable {p : Program} {l : Launch} {e : Env} {R : Room} {s : State} {m : MethodId} {args : Array Value} {below : List Frame} {meth : Method} {c : Code} {T : State} {locs : List Loc} {cells slots : Nat} {Z : State} {a0 : Array Value} {h : Heap} {Q : Option Value → Heap → List Loc → Prop} {k n : Nat} {a a' : State} {pc pc' : Nat} {ls l' : Array Slot} {rest : List Value}
theorem own_of (hs : ∀ t, Steps p.tables e below a' t → Steps p.tables e below a t) (w : own_WP p e below s Q k n a') : own_WP p e below s Q k n a := by
  obtain ⟨s₂, o, st, r⟩ := w
  exact ⟨s₂, o, hs _ st, r⟩
theorem own_mono {Q' : Option Value → Heap → List Loc → Prop} (hq : ∀ v h L, Q v h L → Q' v h L) (w : own_WP p e below s Q k n a) : own_WP p e below s Q' k n a := by
  obtain ⟨s₂, o, h1, h2, h3, v, L, h4, h5, h6⟩ := w
  exact ⟨s₂, o, h1, h2, h3, v, L, h4, hq _ _ _ h5, h6⟩
theorem own_join {α : Type} (P : α → Prop) (f : α → State) (h1 : (∀ x, P x → own_WP p e below s Q k n (f x)) → own_WP p e below s Q k n a) (h2 : ∀ x, P x → own_WP p e below s Q k n (f x)) : own_WP p e below s Q k n a := h1 h2
theorem own_done (X : Stand p l e R s m args below meth c T locs cells slots) {v : Option Value} (hlk : meth.locks = false) (hv : meth.sig.returnType = none → v = none) (hc : cells ≤ k) (hn : slots ≤ n) (hq : Q v T.heap locs)
    (st : ∀ fs, (∀ (f : JFrame) (acts : List Action), f.method = m → f.locked = none → f.entered = [] → (doReturn e (T.setTop f) acts v).1 = T.setFrames fs) → Steps p.tables e below a (T.setFrames fs)) : own_WP p e below s Q k n a := by
  obtain ⟨fs, hr, hrun, hended, hW, hsame⟩ := X.leave hv hlk
  exact ⟨_, _, st fs hr, hrun, hended, _, _, rfl, hq, ⟨_, rfl⟩, hW, hsame.mono hc hn⟩
theorem own_retI (X : Stand p l e R s m args below meth c T locs cells slots) (hx : p.tables.exec = Jvm.exec) (hlk : meth.locks = false) (hret : meth.sig.returnType = some .int) {z : Int32} (hd : decode c.code pc = .ok (.ireturn, 1)) (hc : cells ≤ k) (hn : slots ≤ n) (hq : Q (some (.int z)) T.heap locs) : own_WP p e below s Q k n (T.setTop (mkF m pc ls (.int z :: rest))) :=
  own_done X hlk (fun q => by rw [hret] at q; cases q) hc hn hq fun fs hr => retOut X hx hret rfl (Or.inl ⟨rfl, Or.inl rfl, z, rfl⟩) hd hr
theorem own_retN (X : Stand p l e R s m args below meth c T locs cells slots) (hx : p.tables.exec = Jvm.exec) (hlk : meth.locks = false) {t : FieldType} (ht : t = .boolean ∨ t = .byte ∨ t = .char ∨ t = .short) (hret : meth.sig.returnType = some t) {z : Int32} (hd : decode c.code pc = .ok (.ireturn, 1)) (hc : cells ≤ k) (hn : slots ≤ n) (hq : Q (some (.int (nar t z))) T.heap locs) : own_WP p e below s Q k n (T.setTop (mkF m pc ls (.int z :: rest))) :=
  own_done X hlk (fun q => by rw [hret] at q; cases q) hc hn hq fun fs hr => retN X hx hret ht hd hr
theorem own_retJ (X : Stand p l e R s m args below meth c T locs cells slots) (hx : p.tables.exec = Jvm.exec) (hlk : meth.locks = false) (hret : meth.sig.returnType = some .long) {z : Int64} (hd : decode c.code pc = .ok (.lreturn, 1)) (hc : cells ≤ k) (hn : slots ≤ n) (hq : Q (some (.long z)) T.heap locs) : own_WP p e below s Q k n (T.setTop (mkF m pc ls (.long z :: rest))) :=
  own_done X hlk (fun q => by rw [hret] at q; cases q) hc hn hq fun fs hr => retOut X hx hret rfl (Or.inr (Or.inl ⟨rfl, rfl, z, rfl⟩)) hd hr
theorem own_retA (X : Stand p l e R s m args below meth c T locs cells slots) (hx : p.tables.exec = Jvm.exec) (hlk : meth.locks = false) {t : FieldType} (ht : t.isReference = true) (hret : meth.sig.returnType = some t) {w : Value} (hw : w.isRef = true) (hnw : narrow t w = w) (hd : decode c.code pc = .ok (.areturn, 1)) (hc : cells ≤ k) (hn : slots ≤ n) (hq : Q (some w) T.heap locs) : own_WP p e below s Q k n (T.setTop (mkF m pc ls (w :: rest))) :=
  own_done X hlk (fun q => by rw [hret] at q; cases q) hc hn hq fun fs hr => retOut X hx hret hnw (Or.inr (Or.inr (Or.inr (Or.inr ⟨rfl, ht, hw⟩)))) hd hr
theorem own_ret0 (X : Stand p l e R s m args below meth c T locs cells slots) (hx : p.tables.exec = Jvm.exec) (hlk : meth.locks = false) (hret : meth.sig.returnType = none) (hd : decode c.code pc = .ok (.return_, 1)) (hc : cells ≤ k) (hn : slots ≤ n) (hq : Q none T.heap locs) : own_WP p e below s Q k n (T.setTop (mkF m pc ls [])) :=
  own_done X hlk (fun _ => rfl) hc hn hq fun fs hr => X.returnOut hx hret hd hr
theorem own_iload (X : Stand p l e R s m args below meth c T locs cells slots) (hx : p.tables.exec = Jvm.exec) {j : Nat} {v : Int32} (hd : decode c.code pc = .ok (.iload j, 2)) (hl : ls[j]? = some (.val (.int v))) (hpc : pc + 2 = pc') (w : own_WP p e below s Q k n (T.setTop (mkF m pc' ls (.int v :: rest)))) : own_WP p e below s Q k n (T.setTop (mkF m pc ls rest)) := by
  subst hpc
  exact own_of (fun t q => XS.iload X.here hx rfl hd hl q) w
theorem own_iloadN (X : Stand p l e R s m args below meth c T locs cells slots) (hx : p.tables.exec = Jvm.exec) {j : Fin 4} {v : Int32} (hd : decode c.code pc = .ok (.iload_n j, 1)) (hl : ls[j.val]? = some (.val (.int v))) (hpc : pc + 1 = pc') (w : own_WP p e below s Q k n (T.setTop (mkF m pc' ls (.int v :: rest)))) : own_WP p e below s Q k n (T.setTop (mkF m pc ls rest)) := by
  subst hpc
  exact own_of (fun t q => XS.iloadN X.here hx rfl hd hl q) w
theorem own_lload (X : Stand p l e R s m args below meth c T locs cells slots) (hx : p.tables.exec = Jvm.exec) {j : Nat} {v : Int64} (hd : decode c.code pc = .ok (.lload j, 2)) (hl : ls[j]? = some (.val (.long v))) (hpc : pc + 2 = pc') (w : own_WP p e below s Q k n (T.setTop (mkF m pc' ls (.long v :: rest)))) : own_WP p e below s Q k n (T.setTop (mkF m pc ls rest)) := by
  subst hpc
  exact own_of (fun t q => XS.lload X.here hx rfl hd hl q) w
theorem own_lloadN (X : Stand p l e R s m args below meth c T locs cells slots) (hx : p.tables.exec = Jvm.exec) {j : Fin 4} {v : Int64} (hd : decode c.code pc = .ok (.lload_n j, 1)) (hl : ls[j.val]? = some (.val (.long v))) (hpc : pc + 1 = pc') (w : own_WP p e below s Q k n (T.setTop (mkF m pc' ls (.long v :: rest)))) : own_WP p e below s Q k n (T.setTop (mkF m pc ls rest)) := by
  subst hpc
  exact own_of (fun t q => XS.lloadN X.here hx rfl hd hl q) w
theorem own_aload (X : Stand p l e R s m args below meth c T locs cells slots) (hx : p.tables.exec = Jvm.exec) {j : Nat} {v : Value} (hd : decode c.code pc = .ok (.aload j, 2)) (hl : ls[j]? = some (.val v)) (hv : v.isRef = true) (hpc : pc + 2 = pc') (w : own_WP p e below s Q k n (T.setTop (mkF m pc' ls (v :: rest)))) : own_WP p e below s Q k n (T.setTop (mkF m pc ls rest)) := by
  subst hpc
  exact own_of (fun t q => XS.aload X.here hx rfl hd hl hv q) w
theorem own_aloadN (X : Stand p l e R s m args below meth c T locs cells slots) (hx : p.tables.exec = Jvm.exec) {j : Fin 4} {v : Value} (hd : decode c.code pc = .ok (.aload_n j, 1)) (hl : ls[j.val]? = some (.val v)) (hv : v.isRef = true) (hpc : pc + 1 = pc') (w : own_WP p e below s Q k n (T.setTop (mkF m pc' ls (v :: rest)))) : own_WP p e below s Q k n (T.setTop (mkF m pc ls rest)) := by
  subst hpc
  exact own_of (fun t q => XS.aloadN X.here hx rfl hd hl hv q) w
theorem own_istore (X : Stand p l e R s m args below meth c T locs cells slots) (hx : p.tables.exec = Jvm.exec) {j : Nat} {v z : Int32} (hd : decode c.code pc = .ok (.istore j, 2)) (hz : z = v) (hl : storeLocals ls j (.int z) = some l') (hpc : pc + 2 = pc') (w : own_WP p e below s Q k n (T.setTop (mkF m pc' l' rest))) : own_WP p e below s Q k n (T.setTop (mkF m pc ls (.int v :: rest))) := by
  subst hpc
  exact own_of (fun t q => XS.istore X.here hx rfl hd rfl (hz ▸ hl) q) w
theorem own_istoreN (X : Stand p l e R s m args below meth c T locs cells slots) (hx : p.tables.exec = Jvm.exec) {j : Fin 4} {v z : Int32} (hd : decode c.code pc = .ok (.istore_n j, 1)) (hz : z = v) (hl : storeLocals ls j.val (.int z) = some l') (hpc : pc + 1 = pc') (w : own_WP p e below s Q k n (T.setTop (mkF m pc' l' rest))) : own_WP p e below s Q k n (T.setTop (mkF m pc ls (.int v :: rest))) := by
  subst hpc
  exact own_of (fun t q => XS.istoreN X.here hx rfl hd rfl (hz ▸ hl) q) w
theorem own_lstore (X : Stand p l e R s m args below meth c T locs cells slots) (hx : p.tables.exec = Jvm.exec) {j : Nat} {v z : Int64} (hd : decode c.code pc = .ok (.lstore j, 2)) (hz : z = v) (hl : storeLocals ls j (.long z) = some l') (hpc : pc + 2 = pc') (w : own_WP p e below s Q k n (T.setTop (mkF m pc' l' rest))) : own_WP p e below s Q k n (T.setTop (mkF m pc ls (.long v :: rest))) := by
  subst hpc
  exact own_of (fun t q => XS.lstore X.here hx rfl hd rfl (hz ▸ hl) q) w
theorem own_lstoreN (X : Stand p l e R s m args below meth c T locs cells slots) (hx : p.tables.exec = Jvm.exec) {j : Fin 4} {v z : Int64} (hd : decode c.code pc = .ok (.lstore_n j, 1)) (hz : z = v) (hl : storeLocals ls j.val (.long z) = some l') (hpc : pc + 1 = pc') (w : own_WP p e below s Q k n (T.setTop (mkF m pc' l' rest))) : own_WP p e below s Q k n (T.setTop (mkF m pc ls (.long v :: rest))) := by
  subst hpc
  exact own_of (fun t q => XS.lstoreN X.here hx rfl hd rfl (hz ▸ hl) q) w
theorem own_astore (X : Stand p l e R s m args below meth c T locs cells slots) (hx : p.tables.exec = Jvm.exec) {j : Nat} {v : Value} (hd : decode c.code pc = .ok (.astore j, 2)) (hv : v.isRef = true) (hl : storeLocals ls j v = some l') (hpc : pc + 2 = pc') (w : own_WP p e below s Q k n (T.setTop (mkF m pc' l' rest))) : own_WP p e below s Q k n (T.setTop (mkF m pc ls (v :: rest))) := by
  subst hpc
  exact own_of (fun t q => XS.astore X.here hx rfl hd rfl hv hl q) w
theorem own_astoreN (X : Stand p l e R s m args below meth c T locs cells slots) (hx : p.tables.exec = Jvm.exec) {j : Fin 4} {v : Value} (hd : decode c.code pc = .ok (.astore_n j, 1)) (hv : v.isRef = true) (hl : storeLocals ls j.val v = some l') (hpc : pc + 1 = pc') (w : own_WP p e below s Q k n (T.setTop (mkF m pc' l' rest))) : own_WP p e below s Q k n (T.setTop (mkF m pc ls (v :: rest))) := by
  subst hpc
  exact own_of (fun t q => XS.astoreN X.here hx rfl hd rfl hv hl q) w
theorem own_iinc (X : Stand p l e R s m args below meth c T locs cells slots) (hx : p.tables.exec = Jvm.exec) {j : Nat} {i : Int} {v z : Int32} (hd : decode c.code pc = .ok (.iinc j i, 3)) (hl0 : ls[j]? = some (.val (.int v))) (hz : z = v + Int32.ofInt i) (hl : storeLocals ls j (.int z) = some l') (hpc : pc + 3 = pc') (w : own_WP p e below s Q k n (T.setTop (mkF m pc' l' rest))) : own_WP p e below s Q k n (T.setTop (mkF m pc ls rest)) := by
  subst hpc
  exact own_of (fun t q => XS.iinc X.here hx rfl hd hl0 (hz ▸ hl) q) w
theorem own_iconst (X : Stand p l e R s m args below meth c T locs cells slots) (hx : p.tables.exec = Jvm.exec) {i : Int} (v : Int32) (hd : decode c.code pc = .ok (.iconst i, 1)) (hv : v = Int32.ofInt i) (hpc : pc + 1 = pc') (w : own_WP p e below s Q k n (T.setTop (mkF m pc' ls (.int v :: rest)))) : own_WP p e below s Q k n (T.setTop (mkF m pc ls rest)) := by
  subst hpc
  exact own_of (fun t q => XS.iconst X.here hx rfl hd (hv ▸ q)) w
theorem own_bipush (X : Stand p l e R s m args below meth c T locs cells slots) (hx : p.tables.exec = Jvm.exec) {i : Int} (v : Int32) (hd : decode c.code pc = .ok (.bipush i, 2)) (hv : v = (Int8.ofInt i).toInt32) (hpc : pc + 2 = pc') (w : own_WP p e below s Q k n (T.setTop (mkF m pc' ls (.int v :: rest)))) : own_WP p e below s Q k n (T.setTop (mkF m pc ls rest)) := by
  subst hpc
  exact own_of (fun t q => XS.bipush X.here hx rfl hd (hv ▸ q)) w
theorem own_sipush (X : Stand p l e R s m args below meth c T locs cells slots) (hx : p.tables.exec = Jvm.exec) {i : Int} (v : Int32) (hd : decode c.code pc = .ok (.sipush i, 3)) (hv : v = (Int16.ofInt i).toInt32) (hpc : pc + 3 = pc') (w : own_WP p e below s Q k n (T.setTop (mkF m pc' ls (.int v :: rest)))) : own_WP p e below s Q k n (T.setTop (mkF m pc ls rest)) := by
  subst hpc
  exact own_of (fun t q => XS.sipush X.here hx rfl hd (hv ▸ q)) w
theorem own_anull (X : Stand p l e R s m args below meth c T locs cells slots) (hx : p.tables.exec = Jvm.exec)  (hd : decode c.code pc = .ok (.aconst_null, 1)) (hpc : pc + 1 = pc') (w : own_WP p e below s Q k n (T.setTop (mkF m pc' ls (.null :: rest)))) : own_WP p e below s Q k n (T.setTop (mkF m pc ls rest)) := by
  subst hpc
  exact own_of (fun t q => XS.aconstNull X.here hx rfl hd q) w
theorem own_lconst0 (X : Stand p l e R s m args below meth c T locs cells slots) (hx : p.tables.exec = Jvm.exec)  (hd : decode c.code pc = .ok (.lconst 0, 1)) (hpc : pc + 1 = pc') (w : own_WP p e below s Q k n (T.setTop (mkF m pc' ls (.long 0 :: rest)))) : own_WP p e below s Q k n (T.setTop (mkF m pc ls rest)) := by
  subst hpc
  exact own_of (fun t q => XS.lconst X.here hx rfl hd q) w
theorem own_lconst1 (X : Stand p l e R s m args below meth c T locs cells slots) (hx : p.tables.exec = Jvm.exec)  (hd : decode c.code pc = .ok (.lconst 1, 1)) (hpc : pc + 1 = pc') (w : own_WP p e below s Q k n (T.setTop (mkF m pc' ls (.long 1 :: rest)))) : own_WP p e below s Q k n (T.setTop (mkF m pc ls rest)) := by
  subst hpc
  exact own_of (fun t q => XS.lconst X.here hx rfl hd q) w
theorem own_ldcInt (X : Stand p l e R s m args below meth c T locs cells slots) (hx : p.tables.exec = Jvm.exec) (hZ : Z.Warmed39 s.vm) {own : String} {idx : Nat} {v : Int32} (hown : s.vm.findClass own = some m.cls) (w1 : (Jvm.Cond.constant own idx v).before a0 Z = true) (hd : decode c.code pc = .ok (.ldc idx, 2)) (hpc : pc + 2 = pc') (w : own_WP p e below s Q k n (T.setTop (mkF m pc' ls (.int v :: rest)))) : own_WP p e below s Q k n (T.setTop (mkF m pc ls rest)) := by
  subst hpc
  exact own_of (fun t q => X.ldcInt hx hown (mvT hZ w1) (g := mkF m pc ls rest) rfl hd _ q) w
theorem own_ldcwInt (X : Stand p l e R s m args below meth c T locs cells slots) (hx : p.tables.exec = Jvm.exec) (hZ : Z.Warmed39 s.vm) {own : String} {idx : Nat} {v : Int32} (hown : s.vm.findClass own = some m.cls) (w1 : (Jvm.Cond.constant own idx v).before a0 Z = true) (hd : decode c.code pc = .ok (.ldc_w idx, 3)) (hpc : pc + 3 = pc') (w : own_WP p e below s Q k n (T.setTop (mkF m pc' ls (.int v :: rest)))) : own_WP p e below s Q k n (T.setTop (mkF m pc ls rest)) := by
  subst hpc
  exact own_of (fun t q => X.ldcwInt hx hown (mvT hZ w1) (g := mkF m pc ls rest) rfl hd _ q) w
theorem own_ldc2Long (X : Stand p l e R s m args below meth c T locs cells slots) (hx : p.tables.exec = Jvm.exec) (hZ : Z.Warmed39 s.vm) {own : String} {idx : Nat} {v : Int64} (hown : s.vm.findClass own = some m.cls) (w1 : (Jvm.Cond.constantLong own idx v).before a0 Z = true) (hd : decode c.code pc = .ok (.ldc2_w idx, 3)) (hpc : pc + 3 = pc') (w : own_WP p e below s Q k n (T.setTop (mkF m pc' ls (.long v :: rest)))) : own_WP p e below s Q k n (T.setTop (mkF m pc ls rest)) := by
  subst hpc
  exact own_of (fun t q => X.ldc2Long hx hown (mvT hZ w1) (g := mkF m pc ls rest) rfl hd _ q) w
theorem own_iadd (X : Stand p l e R s m args below meth c T locs cells slots) (hx : p.tables.exec = Jvm.exec) {x y : Int32} (hd : decode c.code pc = .ok (.iadd, 1)) (hpc : pc + 1 = pc') (w : own_WP p e below s Q k n (T.setTop (mkF m pc' ls (.int (x + y) :: rest)))) : own_WP p e below s Q k n (T.setTop (mkF m pc ls (.int y :: .int x :: rest))) := by
  subst hpc
  exact own_of (fun t q => XS.iadd X.here hx rfl hd rfl q) w
theorem own_ladd (X : Stand p l e R s m args below meth c T locs cells slots) (hx : p.tables.exec = Jvm.exec) {x y : Int64} (hd : decode c.code pc = .ok (.ladd, 1)) (hpc : pc + 1 = pc') (w : own_WP p e below s Q k n (T.setTop (mkF m pc' ls (.long (x + y) :: rest)))) : own_WP p e below s Q k n (T.setTop (mkF m pc ls (.long y :: .long x :: rest))) := by
  subst hpc
  exact own_of (fun t q => XS.ladd X.here hx rfl hd rfl q) w
theorem own_isub (X : Stand p l e R s m args below meth c T locs cells slots) (hx : p.tables.exec = Jvm.exec) {x y : Int32} (hd : decode c.code pc = .ok (.isub, 1)) (hpc : pc + 1 = pc') (w : own_WP p e below s Q k n (T.setTop (mkF m pc' ls (.int (x - y) :: rest)))) : own_WP p e below s Q k n (T.setTop (mkF m pc ls (.int y :: .int x :: rest))) := by
  subst hpc
  exact own_of (fun t q => XS.isub X.here hx rfl hd rfl q) w
theorem own_lsub (X : Stand p l e R s m args below meth c T locs cells slots) (hx : p.tables.exec = Jvm.exec) {x y : Int64} (hd : decode c.code pc = .ok (.lsub, 1)) (hpc : pc + 1 = pc') (w : own_WP p e below s Q k n (T.setTop (mkF m pc' ls (.long (x - y) :: rest)))) : own_WP p e below s Q k n (T.setTop (mkF m pc ls (.long y :: .long x :: rest))) := by
  subst hpc
  exact own_of (fun t q => XS.lsub X.here hx rfl hd rfl q) w
theorem own_imul (X : Stand p l e R s m args below meth c T locs cells slots) (hx : p.tables.exec = Jvm.exec) {x y : Int32} (hd : decode c.code pc = .ok (.imul, 1)) (hpc : pc + 1 = pc') (w : own_WP p e below s Q k n (T.setTop (mkF m pc' ls (.int (x * y) :: rest)))) : own_WP p e below s Q k n (T.setTop (mkF m pc ls (.int y :: .int x :: rest))) := by
  subst hpc
  exact own_of (fun t q => XS.imul X.here hx rfl hd rfl q) w
theorem own_lmul (X : Stand p l e R s m args below meth c T locs cells slots) (hx : p.tables.exec = Jvm.exec) {x y : Int64} (hd : decode c.code pc = .ok (.lmul, 1)) (hpc : pc + 1 = pc') (w : own_WP p e below s Q k n (T.setTop (mkF m pc' ls (.long (x * y) :: rest)))) : own_WP p e below s Q k n (T.setTop (mkF m pc ls (.long y :: .long x :: rest))) := by
  subst hpc
  exact own_of (fun t q => XS.lmul X.here hx rfl hd rfl q) w
theorem own_iand (X : Stand p l e R s m args below meth c T locs cells slots) (hx : p.tables.exec = Jvm.exec) {x y : Int32} (hd : decode c.code pc = .ok (.iand, 1)) (hpc : pc + 1 = pc') (w : own_WP p e below s Q k n (T.setTop (mkF m pc' ls (.int (x &&& y) :: rest)))) : own_WP p e below s Q k n (T.setTop (mkF m pc ls (.int y :: .int x :: rest))) := by
  subst hpc
  exact own_of (fun t q => XS.iand X.here hx rfl hd rfl q) w
theorem own_land (X : Stand p l e R s m args below meth c T locs cells slots) (hx : p.tables.exec = Jvm.exec) {x y : Int64} (hd : decode c.code pc = .ok (.land, 1)) (hpc : pc + 1 = pc') (w : own_WP p e below s Q k n (T.setTop (mkF m pc' ls (.long (x &&& y) :: rest)))) : own_WP p e below s Q k n (T.setTop (mkF m pc ls (.long y :: .long x :: rest))) := by
  subst hpc
  exact own_of (fun t q => XS.land X.here hx rfl hd rfl q) w
theorem own_ior (X : Stand p l e R s m args below meth c T locs cells slots) (hx : p.tables.exec = Jvm.exec) {x y : Int32} (hd : decode c.code pc = .ok (.ior, 1)) (hpc : pc + 1 = pc') (w : own_WP p e below s Q k n (T.setTop (mkF m pc' ls (.int (x ||| y) :: rest)))) : own_WP p e below s Q k n (T.setTop (mkF m pc ls (.int y :: .int x :: rest))) := by
  subst hpc
  exact own_of (fun t q => XS.ior X.here hx rfl hd rfl q) w
theorem own_lor (X : Stand p l e R s m args below meth c T locs cells slots) (hx : p.tables.exec = Jvm.exec) {x y : Int64} (hd : decode c.code pc = .ok (.lor, 1)) (hpc : pc + 1 = pc') (w : own_WP p e below s Q k n (T.setTop (mkF m pc' ls (.long (x ||| y) :: rest)))) : own_WP p e below s Q k n (T.setTop (mkF m pc ls (.long y :: .long x :: rest))) := by
  subst hpc
  exact own_of (fun t q => XS.lor X.here hx rfl hd rfl q) w
theorem own_ixor (X : Stand p l e R s m args below meth c T locs cells slots) (hx : p.tables.exec = Jvm.exec) {x y : Int32} (hd : decode c.code pc = .ok (.ixor, 1)) (hpc : pc + 1 = pc') (w : own_WP p e below s Q k n (T.setTop (mkF m pc' ls (.int (x ^^^ y) :: rest)))) : own_WP p e below s Q k n (T.setTop (mkF m pc ls (.int y :: .int x :: rest))) := by
  subst hpc
  exact own_of (fun t q => XS.ixor X.here hx rfl hd rfl q) w
theorem own_lxor (X : Stand p l e R s m args below meth c T locs cells slots) (hx : p.tables.exec = Jvm.exec) {x y : Int64} (hd : decode c.code pc = .ok (.lxor, 1)) (hpc : pc + 1 = pc') (w : own_WP p e below s Q k n (T.setTop (mkF m pc' ls (.long (x ^^^ y) :: rest)))) : own_WP p e below s Q k n (T.setTop (mkF m pc ls (.long y :: .long x :: rest))) := by
  subst hpc
  exact own_of (fun t q => XS.lxor X.here hx rfl hd rfl q) w
theorem own_ishl (X : Stand p l e R s m args below meth c T locs cells slots) (hx : p.tables.exec = Jvm.exec) {x y : Int32} (hd : decode c.code pc = .ok (.ishl, 1)) (hpc : pc + 1 = pc') (w : own_WP p e below s Q k n (T.setTop (mkF m pc' ls (.int (x <<< (y &&& 31)) :: rest)))) : own_WP p e below s Q k n (T.setTop (mkF m pc ls (.int y :: .int x :: rest))) := by
  subst hpc
  exact own_of (fun t q => XS.ishl X.here hx rfl hd rfl q) w
theorem own_ishr (X : Stand p l e R s m args below meth c T locs cells slots) (hx : p.tables.exec = Jvm.exec) {x y : Int32} (hd : decode c.code pc = .ok (.ishr, 1)) (hpc : pc + 1 = pc') (w : own_WP p e below s Q k n (T.setTop (mkF m pc' ls (.int (x >>> (y &&& 31)) :: rest)))) : own_WP p e below s Q k n (T.setTop (mkF m pc ls (.int y :: .int x :: rest))) := by
  subst hpc
  exact own_of (fun t q => XS.ishr X.here hx rfl hd rfl q) w
theorem own_iushr (X : Stand p l e R s m args below meth c T locs cells slots) (hx : p.tables.exec = Jvm.exec) {x y : Int32} (hd : decode c.code pc = .ok (.iushr, 1)) (hpc : pc + 1 = pc') (w : own_WP p e below s Q k n (T.setTop (mkF m pc' ls (.int ((x.toUInt32 >>> (y &&& 31).toUInt32).toInt32) :: rest)))) : own_WP p e below s Q k n (T.setTop (mkF m pc ls (.int y :: .int x :: rest))) := by
  subst hpc
  exact own_of (fun t q => XS.iushr X.here hx rfl hd rfl q) w
theorem own_lshl (X : Stand p l e R s m args below meth c T locs cells slots) (hx : p.tables.exec = Jvm.exec) {x : Int64} {y : Int32} (hd : decode c.code pc = .ok (.lshl, 1)) (hpc : pc + 1 = pc') (w : own_WP p e below s Q k n (T.setTop (mkF m pc' ls (.long (x <<< (y &&& 0x3f).toInt64) :: rest)))) : own_WP p e below s Q k n (T.setTop (mkF m pc ls (.int y :: .long x :: rest))) := by
  subst hpc
  exact own_of (fun t q => XS.lshl X.here hx rfl hd rfl q) w
theorem own_lshr (X : Stand p l e R s m args below meth c T locs cells slots) (hx : p.tables.exec = Jvm.exec) {x : Int64} {y : Int32} (hd : decode c.code pc = .ok (.lshr, 1)) (hpc : pc + 1 = pc') (w : own_WP p e below s Q k n (T.setTop (mkF m pc' ls (.long (x >>> (y &&& 0x3f).toInt64) :: rest)))) : own_WP p e below s Q k n (T.setTop (mkF m pc ls (.int y :: .long x :: rest))) := by
  subst hpc
  exact own_of (fun t q => XS.lshr X.here hx rfl hd rfl q) w
theorem own_lushr (X : Stand p l e R s m args below meth c T locs cells slots) (hx : p.tables.exec = Jvm.exec) {x : Int64} {y : Int32} (hd : decode c.code pc = .ok (.lushr, 1)) (hpc : pc + 1 = pc') (w : own_WP p e below s Q k n (T.setTop (mkF m pc' ls (.long ((x.toUInt64 >>> (y &&& 0x3f).toInt64.toUInt64).toInt64) :: rest)))) : own_WP p e below s Q k n (T.setTop (mkF m pc ls (.int y :: .long x :: rest))) := by
  subst hpc
  exact own_of (fun t q => XS.lushr X.here hx rfl hd rfl q) w
theorem own_idiv (X : Stand p l e R s m args below meth c T locs cells slots) (hx : p.tables.exec = Jvm.exec) {x y : Int32} (hd : decode c.code pc = .ok (.idiv, 1)) (hy : y ≠ 0) (hpc : pc + 1 = pc') (w : own_WP p e below s Q k n (T.setTop (mkF m pc' ls (.int (x / y) :: rest)))) : own_WP p e below s Q k n (T.setTop (mkF m pc ls (.int y :: .int x :: rest))) := by
  subst hpc
  exact own_of (fun t q => XS.idiv X.here hx rfl hd rfl hy q) w
theorem own_irem (X : Stand p l e R s m args below meth c T locs cells slots) (hx : p.tables.exec = Jvm.exec) {x y : Int32} (hd : decode c.code pc = .ok (.irem, 1)) (hy : y ≠ 0) (hpc : pc + 1 = pc') (w : own_WP p e below s Q k n (T.setTop (mkF m pc' ls (.int (x % y) :: rest)))) : own_WP p e below s Q k n (T.setTop (mkF m pc ls (.int y :: .int x :: rest))) := by
  subst hpc
  exact own_of (fun t q => iremM X hx rfl hd rfl hy q) w
theorem own_ldiv (X : Stand p l e R s m args below meth c T locs cells slots) (hx : p.tables.exec = Jvm.exec) {x y : Int64} (hd : decode c.code pc = .ok (.ldiv, 1)) (hy : y ≠ 0) (hpc : pc + 1 = pc') (w : own_WP p e below s Q k n (T.setTop (mkF m pc' ls (.long (x / y) :: rest)))) : own_WP p e below s Q k n (T.setTop (mkF m pc ls (.long y :: .long x :: rest))) := by
  subst hpc
  exact own_of (fun t q => XS.ldiv X.here hx rfl hd rfl hy q) w
theorem own_lrem (X : Stand p l e R s m args below meth c T locs cells slots) (hx : p.tables.exec = Jvm.exec) {x y : Int64} (hd : decode c.code pc = .ok (.lrem, 1)) (hy : y ≠ 0) (hpc : pc + 1 = pc') (w : own_WP p e below s Q k n (T.setTop (mkF m pc' ls (.long (x % y) :: rest)))) : own_WP p e below s Q k n (T.setTop (mkF m pc ls (.long y :: .long x :: rest))) := by
  subst hpc
  exact own_of (fun t q => XS.lrem X.here hx rfl hd rfl hy ((lrem_mod x y).symm ▸ q)) w
theorem own_ineg (X : Stand p l e R s m args below meth c T locs cells slots) (hx : p.tables.exec = Jvm.exec) {x : Int32} (hd : decode c.code pc = .ok (.ineg, 1)) (hpc : pc + 1 = pc') (w : own_WP p e below s Q k n (T.setTop (mkF m pc' ls (.int (-x) :: rest)))) : own_WP p e below s Q k n (T.setTop (mkF m pc ls (.int x :: rest))) := by
  subst hpc
  exact own_of (fun t q => XS.ineg X.here hx rfl hd rfl q) w
theorem own_lneg (X : Stand p l e R s m args below meth c T locs cells slots) (hx : p.tables.exec = Jvm.exec) {x : Int64} (hd : decode c.code pc = .ok (.lneg, 1)) (hpc : pc + 1 = pc') (w : own_WP p e below s Q k n (T.setTop (mkF m pc' ls (.long (-x) :: rest)))) : own_WP p e below s Q k n (T.setTop (mkF m pc ls (.long x :: rest))) := by
  subst hpc
  exact own_of (fun t q => XS.lneg X.here hx rfl hd rfl q) w
theorem own_i2l (X : Stand p l e R s m args below meth c T locs cells slots) (hx : p.tables.exec = Jvm.exec) {x : Int32} (hd : decode c.code pc = .ok (.i2l, 1)) (hpc : pc + 1 = pc') (w : own_WP p e below s Q k n (T.setTop (mkF m pc' ls (.long (x.toInt64) :: rest)))) : own_WP p e below s Q k n (T.setTop (mkF m pc ls (.int x :: rest))) := by
  subst hpc
  exact own_of (fun t q => XS.i2l X.here hx rfl hd rfl q) w
theorem own_l2i (X : Stand p l e R s m args below meth c T locs cells slots) (hx : p.tables.exec = Jvm.exec) {x : Int64} (hd : decode c.code pc = .ok (.l2i, 1)) (hpc : pc + 1 = pc') (w : own_WP p e below s Q k n (T.setTop (mkF m pc' ls (.int (x.toInt32) :: rest)))) : own_WP p e below s Q k n (T.setTop (mkF m pc ls (.long x :: rest))) := by
  subst hpc
  exact own_of (fun t q => XS.l2i X.here hx rfl hd rfl q) w
theorem own_i2b (X : Stand p l e R s m args below meth c T locs cells slots) (hx : p.tables.exec = Jvm.exec) {x : Int32} (hd : decode c.code pc = .ok (.i2b, 1)) (hpc : pc + 1 = pc') (w : own_WP p e below s Q k n (T.setTop (mkF m pc' ls (.int (x.toInt8.toInt32) :: rest)))) : own_WP p e below s Q k n (T.setTop (mkF m pc ls (.int x :: rest))) := by
  subst hpc
  exact own_of (fun t q => XS.i2b X.here hx rfl hd rfl q) w
theorem own_i2s (X : Stand p l e R s m args below meth c T locs cells slots) (hx : p.tables.exec = Jvm.exec) {x : Int32} (hd : decode c.code pc = .ok (.i2s, 1)) (hpc : pc + 1 = pc') (w : own_WP p e below s Q k n (T.setTop (mkF m pc' ls (.int (x.toInt16.toInt32) :: rest)))) : own_WP p e below s Q k n (T.setTop (mkF m pc ls (.int x :: rest))) := by
  subst hpc
  exact own_of (fun t q => XS.i2s X.here hx rfl hd rfl q) w
theorem own_i2c (X : Stand p l e R s m args below meth c T locs cells slots) (hx : p.tables.exec = Jvm.exec) {x : Int32} (hd : decode c.code pc = .ok (.i2c, 1)) (hpc : pc + 1 = pc') (w : own_WP p e below s Q k n (T.setTop (mkF m pc' ls (.int (x.toUInt32.toUInt16.toUInt32.toInt32) :: rest)))) : own_WP p e below s Q k n (T.setTop (mkF m pc ls (.int x :: rest))) := by
  subst hpc
  exact own_of (fun t q => XS.i2c X.here hx rfl hd rfl q) w
theorem own_lcmp (X : Stand p l e R s m args below meth c T locs cells slots) (hx : p.tables.exec = Jvm.exec) {x y : Int64} (hd : decode c.code pc = .ok (.lcmp, 1)) (hpc : pc + 1 = pc') (w : own_WP p e below s Q k n (T.setTop (mkF m pc' ls (.int (lcmpW x y) :: rest)))) : own_WP p e below s Q k n (T.setTop (mkF m pc ls (.long y :: .long x :: rest))) := by
  subst hpc
  exact own_of (fun t q => XS.lcmp X.here hx rfl hd rfl q) w
theorem own_dup (X : Stand p l e R s m args below meth c T locs cells slots) (hx : p.tables.exec = Jvm.exec) {v : Value} (hd : decode c.code pc = .ok (.dup, 1)) (hv : v.category = 1) (hpc : pc + 1 = pc') (w : own_WP p e below s Q k n (T.setTop (mkF m pc' ls (v :: v :: rest)))) : own_WP p e below s Q k n (T.setTop (mkF m pc ls (v :: rest))) := by
  subst hpc
  exact own_of (fun t q => XS.dup X.here hx rfl hd rfl hv q) w
theorem own_pop (X : Stand p l e R s m args below meth c T locs cells slots) (hx : p.tables.exec = Jvm.exec) {v : Value} (hd : decode c.code pc = .ok (.pop, 1)) (hv : v.category = 1) (hpc : pc + 1 = pc') (w : own_WP p e below s Q k n (T.setTop (mkF m pc' ls rest))) : own_WP p e below s Q k n (T.setTop (mkF m pc ls (v :: rest))) := by
  subst hpc
  exact own_of (fun t q => XS.pop X.here hx rfl hd rfl hv q) w
theorem own_dup2 (X : Stand p l e R s m args below meth c T locs cells slots) (hx : p.tables.exec = Jvm.exec) {v1 v2 : Value} (hd : decode c.code pc = .ok (.dup2, 1)) (h1 : v1.category = 1) (h2 : v2.category = 1) (hpc : pc + 1 = pc') (w : own_WP p e below s Q k n (T.setTop (mkF m pc' ls (v1 :: v2 :: v1 :: v2 :: rest)))) : own_WP p e below s Q k n (T.setTop (mkF m pc ls (v1 :: v2 :: rest))) := by
  subst hpc
  refine own_of (fun t q => ?_) w
  jvm_step X.here [X.here.top, hx, hd, h1, h2]
  exact q
theorem own_goto (X : Stand p l e R s m args below meth c T locs cells slots) (hx : p.tables.exec = Jvm.exec) {o : Int} (hd : decode c.code pc = .ok (.goto o, 3)) (ho : 0 ≤ (pc : Int) + o) (hpc : ((pc : Int) + o).toNat = pc') (w : own_WP p e below s Q k n (T.setTop (mkF m pc' ls rest))) : own_WP p e below s Q k n (T.setTop (mkF m pc ls rest)) :=
  own_of (fun t q => XS.goto X.here hx rfl (pc0 := pc) (pc' := pc') rfl hd ho hpc q) w
theorem own_icmp_lt (X : Stand p l e R s m args below meth c T locs cells slots) (hx : p.tables.exec = Jvm.exec) {x y : Int32} {o : Int} {pf pt : Nat} (hd : decode c.code pc = .ok (.if_icmp .lt o, 3)) (hpf : pc + 3 = pf) (ho : 0 ≤ (pc : Int) + o) (hpt : ((pc : Int) + o).toNat = pt)
    (yes : x < y → own_WP p e below s Q k n (T.setTop (mkF m pt ls rest))) (no : ¬ x < y → own_WP p e below s Q k n (T.setTop (mkF m pf ls rest))) : own_WP p e below s Q k n (T.setTop (mkF m pc ls (.int y :: .int x :: rest))) := by
  subst hpf
  by_cases hq : x < y
  · exact own_of (fun t q => XS.icmpYes X.here hx rfl (pc0 := pc) (pc' := pt) rfl hd rfl ((tlt hq).1) ho hpt q) (yes hq)
  · exact own_of (fun t q => XS.icmpNo X.here hx rfl hd rfl ((flt hq).1) q) (no hq)
theorem own_if_lt (X : Stand p l e R s m args below meth c T locs cells slots) (hx : p.tables.exec = Jvm.exec) {x : Int32} {o : Int} {pf pt : Nat} (hd : decode c.code pc = .ok (.ifCond .lt o, 3)) (hpf : pc + 3 = pf) (ho : 0 ≤ (pc : Int) + o) (hpt : ((pc : Int) + o).toNat = pt)
    (yes : x < 0 → own_WP p e below s Q k n (T.setTop (mkF m pt ls rest))) (no : ¬ x < 0 → own_WP p e below s Q k n (T.setTop (mkF m pf ls rest))) : own_WP p e below s Q k n (T.setTop (mkF m pc ls (.int x :: rest))) := by
  subst hpf
  by_cases hq : x < 0
  · exact own_of (fun t q => XS.ifYes X.here hx rfl (pc0 := pc) (pc' := pt) rfl hd rfl ((if0 _ _).trans (tlt hq).1) ho hpt q) (yes hq)
  · exact own_of (fun t q => XS.ifNo X.here hx rfl hd rfl ((if0 _ _).trans (flt hq).1) q) (no hq)
theorem own_ifl_lt (X : Stand p l e R s m args below meth c T locs cells slots) (hx : p.tables.exec = Jvm.exec) {x y : Int64} {o : Int} {pf pt : Nat} (hd : decode c.code pc = .ok (.ifCond .lt o, 3)) (hpf : pc + 3 = pf) (ho : 0 ≤ (pc : Int) + o) (hpt : ((pc : Int) + o).toNat = pt)
    (yes : x < y → own_WP p e below s Q k n (T.setTop (mkF m pt ls rest))) (no : ¬ x < y → own_WP p e below s Q k n (T.setTop (mkF m pf ls rest))) : own_WP p e below s Q k n (T.setTop (mkF m pc ls (.int (lcmpW x y) :: rest))) := by
  subst hpf
  by_cases hq : x < y
  · exact own_of (fun t q => XS.ifYes X.here hx rfl (pc0 := pc) (pc' := pt) rfl hd rfl ((if0 _ _).trans (tlt ((lw_lt x y).mpr hq)).1) ho hpt q) (yes hq)
  · exact own_of (fun t q => XS.ifNo X.here hx rfl hd rfl ((if0 _ _).trans (flt (fun z => hq ((lw_lt x y).mp z))).1) q) (no hq)
theorem own_icmp_ge (X : Stand p l e R s m args below meth c T locs cells slots) (hx : p.tables.exec = Jvm.exec) {x y : Int32} {o : Int} {pf pt : Nat} (hd : decode c.code pc = .ok (.if_icmp .ge o, 3)) (hpf : pc + 3 = pf) (ho : 0 ≤ (pc : Int) + o) (hpt : ((pc : Int) + o).toNat = pt)
    (yes : ¬ x < y → own_WP p e below s Q k n (T.setTop (mkF m pt ls rest))) (no : x < y → own_WP p e below s Q k n (T.setTop (mkF m pf ls rest))) : own_WP p e below s Q k n (T.setTop (mkF m pc ls (.int y :: .int x :: rest))) := by
  subst hpf
  by_cases hq : ¬ x < y
  · exact own_of (fun t q => XS.icmpYes X.here hx rfl (pc0 := pc) (pc' := pt) rfl hd rfl ((flt hq).2.1) ho hpt q) (yes hq)
  · exact own_of (fun t q => XS.icmpNo X.here hx rfl hd rfl ((tlt (Classical.not_not.mp hq)).2.1) q) (no (Classical.not_not.mp hq))
theorem own_if_ge (X : Stand p l e R s m args below meth c T locs cells slots) (hx : p.tables.exec = Jvm.exec) {x : Int32} {o : Int} {pf pt : Nat} (hd : decode c.code pc = .ok (.ifCond .ge o, 3)) (hpf : pc + 3 = pf) (ho : 0 ≤ (pc : Int) + o) (hpt : ((pc : Int) + o).toNat = pt)
    (yes : ¬ x < 0 → own_WP p e below s Q k n (T.setTop (mkF m pt ls rest))) (no : x < 0 → own_WP p e below s Q k n (T.setTop (mkF m pf ls rest))) : own_WP p e below s Q k n (T.setTop (mkF m pc ls (.int x :: rest))) := by
  subst hpf
  by_cases hq : ¬ x < 0
  · exact own_of (fun t q => XS.ifYes X.here hx rfl (pc0 := pc) (pc' := pt) rfl hd rfl ((if0 _ _).trans (flt hq).2.1) ho hpt q) (yes hq)
  · exact own_of (fun t q => XS.ifNo X.here hx rfl hd rfl ((if0 _ _).trans (tlt (Classical.not_not.mp hq)).2.1) q) (no (Classical.not_not.mp hq))
theorem own_ifl_ge (X : Stand p l e R s m args below meth c T locs cells slots) (hx : p.tables.exec = Jvm.exec) {x y : Int64} {o : Int} {pf pt : Nat} (hd : decode c.code pc = .ok (.ifCond .ge o, 3)) (hpf : pc + 3 = pf) (ho : 0 ≤ (pc : Int) + o) (hpt : ((pc : Int) + o).toNat = pt)
    (yes : ¬ x < y → own_WP p e below s Q k n (T.setTop (mkF m pt ls rest))) (no : x < y → own_WP p e below s Q k n (T.setTop (mkF m pf ls rest))) : own_WP p e below s Q k n (T.setTop (mkF m pc ls (.int (lcmpW x y) :: rest))) := by
  subst hpf
  by_cases hq : ¬ x < y
  · exact own_of (fun t q => XS.ifYes X.here hx rfl (pc0 := pc) (pc' := pt) rfl hd rfl ((if0 _ _).trans (flt (fun z => hq ((lw_lt x y).mp z))).2.1) ho hpt q) (yes hq)
  · exact own_of (fun t q => XS.ifNo X.here hx rfl hd rfl ((if0 _ _).trans (tlt ((lw_lt x y).mpr (Classical.not_not.mp hq))).2.1) q) (no (Classical.not_not.mp hq))
theorem own_icmp_gt (X : Stand p l e R s m args below meth c T locs cells slots) (hx : p.tables.exec = Jvm.exec) {x y : Int32} {o : Int} {pf pt : Nat} (hd : decode c.code pc = .ok (.if_icmp .gt o, 3)) (hpf : pc + 3 = pf) (ho : 0 ≤ (pc : Int) + o) (hpt : ((pc : Int) + o).toNat = pt)
    (yes : y < x → own_WP p e below s Q k n (T.setTop (mkF m pt ls rest))) (no : ¬ y < x → own_WP p e below s Q k n (T.setTop (mkF m pf ls rest))) : own_WP p e below s Q k n (T.setTop (mkF m pc ls (.int y :: .int x :: rest))) := by
  subst hpf
  by_cases hq : y < x
  · exact own_of (fun t q => XS.icmpYes X.here hx rfl (pc0 := pc) (pc' := pt) rfl hd rfl ((tlt hq).2.2.1) ho hpt q) (yes hq)
  · exact own_of (fun t q => XS.icmpNo X.here hx rfl hd rfl ((flt hq).2.2.1) q) (no hq)
theorem own_if_gt (X : Stand p l e R s m args below meth c T locs cells slots) (hx : p.tables.exec = Jvm.exec) {x : Int32} {o : Int} {pf pt : Nat} (hd : decode c.code pc = .ok (.ifCond .gt o, 3)) (hpf : pc + 3 = pf) (ho : 0 ≤ (pc : Int) + o) (hpt : ((pc : Int) + o).toNat = pt)
    (yes : 0 < x → own_WP p e below s Q k n (T.setTop (mkF m pt ls rest))) (no : ¬ 0 < x → own_WP p e below s Q k n (T.setTop (mkF m pf ls rest))) : own_WP p e below s Q k n (T.setTop (mkF m pc ls (.int x :: rest))) := by
  subst hpf
  by_cases hq : 0 < x
  · exact own_of (fun t q => XS.ifYes X.here hx rfl (pc0 := pc) (pc' := pt) rfl hd rfl ((if0 _ _).trans (tlt hq).2.2.1) ho hpt q) (yes hq)
  · exact own_of (fun t q => XS.ifNo X.here hx rfl hd rfl ((if0 _ _).trans (flt hq).2.2.1) q) (no hq)
theorem own_ifl_gt (X : Stand p l e R s m args below meth c T locs cells slots) (hx : p.tables.exec = Jvm.exec) {x y : Int64} {o : Int} {pf pt : Nat} (hd : decode c.code pc = .ok (.ifCond .gt o, 3)) (hpf : pc + 3 = pf) (ho : 0 ≤ (pc : Int) + o) (hpt : ((pc : Int) + o).toNat = pt)
    (yes : y < x → own_WP p e below s Q k n (T.setTop (mkF m pt ls rest))) (no : ¬ y < x → own_WP p e below s Q k n (T.setTop (mkF m pf ls rest))) : own_WP p e below s Q k n (T.setTop (mkF m pc ls (.int (lcmpW x y) :: rest))) := by
  subst hpf
  by_cases hq : y < x
  · exact own_of (fun t q => XS.ifYes X.here hx rfl (pc0 := pc) (pc' := pt) rfl hd rfl ((if0 _ _).trans (tlt ((lw_gt x y).mpr hq)).2.2.1) ho hpt q) (yes hq)
  · exact own_of (fun t q => XS.ifNo X.here hx rfl hd rfl ((if0 _ _).trans (flt (fun z => hq ((lw_gt x y).mp z))).2.2.1) q) (no hq)
theorem own_icmp_le (X : Stand p l e R s m args below meth c T locs cells slots) (hx : p.tables.exec = Jvm.exec) {x y : Int32} {o : Int} {pf pt : Nat} (hd : decode c.code pc = .ok (.if_icmp .le o, 3)) (hpf : pc + 3 = pf) (ho : 0 ≤ (pc : Int) + o) (hpt : ((pc : Int) + o).toNat = pt)
    (yes : ¬ y < x → own_WP p e below s Q k n (T.setTop (mkF m pt ls rest))) (no : y < x → own_WP p e below s Q k n (T.setTop (mkF m pf ls rest))) : own_WP p e below s Q k n (T.setTop (mkF m pc ls (.int y :: .int x :: rest))) := by
  subst hpf
  by_cases hq : ¬ y < x
  · exact own_of (fun t q => XS.icmpYes X.here hx rfl (pc0 := pc) (pc' := pt) rfl hd rfl ((flt hq).2.2.2) ho hpt q) (yes hq)
  · exact own_of (fun t q => XS.icmpNo X.here hx rfl hd rfl ((tlt (Classical.not_not.mp hq)).2.2.2) q) (no (Classical.not_not.mp hq))
theorem own_if_le (X : Stand p l e R s m args below meth c T locs cells slots) (hx : p.tables.exec = Jvm.exec) {x : Int32} {o : Int} {pf pt : Nat} (hd : decode c.code pc = .ok (.ifCond .le o, 3)) (hpf : pc + 3 = pf) (ho : 0 ≤ (pc : Int) + o) (hpt : ((pc : Int) + o).toNat = pt)
    (yes : ¬ 0 < x → own_WP p e below s Q k n (T.setTop (mkF m pt ls rest))) (no : 0 < x → own_WP p e below s Q k n (T.setTop (mkF m pf ls rest))) : own_WP p e below s Q k n (T.setTop (mkF m pc ls (.int x :: rest))) := by
  subst hpf
  by_cases hq : ¬ 0 < x
  · exact own_of (fun t q => XS.ifYes X.here hx rfl (pc0 := pc) (pc' := pt) rfl hd rfl ((if0 _ _).trans (flt hq).2.2.2) ho hpt q) (yes hq)
  · exact own_of (fun t q => XS.ifNo X.here hx rfl hd rfl ((if0 _ _).trans (tlt (Classical.not_not.mp hq)).2.2.2) q) (no (Classical.not_not.mp hq))
theorem own_ifl_le (X : Stand p l e R s m args below meth c T locs cells slots) (hx : p.tables.exec = Jvm.exec) {x y : Int64} {o : Int} {pf pt : Nat} (hd : decode c.code pc = .ok (.ifCond .le o, 3)) (hpf : pc + 3 = pf) (ho : 0 ≤ (pc : Int) + o) (hpt : ((pc : Int) + o).toNat = pt)
    (yes : ¬ y < x → own_WP p e below s Q k n (T.setTop (mkF m pt ls rest))) (no : y < x → own_WP p e below s Q k n (T.setTop (mkF m pf ls rest))) : own_WP p e below s Q k n (T.setTop (mkF m pc ls (.int (lcmpW x y) :: rest))) := by
  subst hpf
  by_cases hq : ¬ y < x
  · exact own_of (fun t q => XS.ifYes X.here hx rfl (pc0 := pc) (pc' := pt) rfl hd rfl ((if0 _ _).trans (flt (fun z => hq ((lw_gt x y).mp z))).2.2.2) ho hpt q) (yes hq)
  · exact own_of (fun t q => XS.ifNo X.here hx rfl hd rfl ((if0 _ _).trans (tlt ((lw_gt x y).mpr (Classical.not_not.mp hq))).2.2.2) q) (no (Classical.not_not.mp hq))
theorem own_icmp_eq (X : Stand p l e R s m args below meth c T locs cells slots) (hx : p.tables.exec = Jvm.exec) {x y : Int32} {o : Int} {pf pt : Nat} (hd : decode c.code pc = .ok (.if_icmp .eq o, 3)) (hpf : pc + 3 = pf) (ho : 0 ≤ (pc : Int) + o) (hpt : ((pc : Int) + o).toNat = pt)
    (yes : x = y → own_WP p e below s Q k n (T.setTop (mkF m pt ls rest))) (no : ¬ x = y → own_WP p e below s Q k n (T.setTop (mkF m pf ls rest))) : own_WP p e below s Q k n (T.setTop (mkF m pc ls (.int y :: .int x :: rest))) := by
  subst hpf
  by_cases hq : x = y
  · exact own_of (fun t q => XS.icmpYes X.here hx rfl (pc0 := pc) (pc' := pt) rfl hd rfl ((teq hq).1) ho hpt q) (yes hq)
  · exact own_of (fun t q => XS.icmpNo X.here hx rfl hd rfl ((feq hq).1) q) (no hq)
theorem own_if_eq (X : Stand p l e R s m args below meth c T locs cells slots) (hx : p.tables.exec = Jvm.exec) {x : Int32} {o : Int} {pf pt : Nat} (hd : decode c.code pc = .ok (.ifCond .eq o, 3)) (hpf : pc + 3 = pf) (ho : 0 ≤ (pc : Int) + o) (hpt : ((pc : Int) + o).toNat = pt)
    (yes : x = 0 → own_WP p e below s Q k n (T.setTop (mkF m pt ls rest))) (no : ¬ x = 0 → own_WP p e below s Q k n (T.setTop (mkF m pf ls rest))) : own_WP p e below s Q k n (T.setTop (mkF m pc ls (.int x :: rest))) := by
  subst hpf
  by_cases hq : x = 0
  · exact own_of (fun t q => XS.ifYes X.here hx rfl (pc0 := pc) (pc' := pt) rfl hd rfl ((if0 _ _).trans (teq hq).1) ho hpt q) (yes hq)
  · exact own_of (fun t q => XS.ifNo X.here hx rfl hd rfl ((if0 _ _).trans (feq hq).1) q) (no hq)
theorem own_ifl_eq (X : Stand p l e R s m args below meth c T locs cells slots) (hx : p.tables.exec = Jvm.exec) {x y : Int64} {o : Int} {pf pt : Nat} (hd : decode c.code pc = .ok (.ifCond .eq o, 3)) (hpf : pc + 3 = pf) (ho : 0 ≤ (pc : Int) + o) (hpt : ((pc : Int) + o).toNat = pt)
    (yes : x = y → own_WP p e below s Q k n (T.setTop (mkF m pt ls rest))) (no : ¬ x = y → own_WP p e below s Q k n (T.setTop (mkF m pf ls rest))) : own_WP p e below s Q k n (T.setTop (mkF m pc ls (.int (lcmpW x y) :: rest))) := by
  subst hpf
  by_cases hq : x = y
  · exact own_of (fun t q => XS.ifYes X.here hx rfl (pc0 := pc) (pc' := pt) rfl hd rfl ((if0 _ _).trans (teq ((lw_eq x y).mpr hq)).1) ho hpt q) (yes hq)
  · exact own_of (fun t q => XS.ifNo X.here hx rfl hd rfl ((if0 _ _).trans (feq (fun z => hq ((lw_eq x y).mp z))).1) q) (no hq)
theorem own_icmp_ne (X : Stand p l e R s m args below meth c T locs cells slots) (hx : p.tables.exec = Jvm.exec) {x y : Int32} {o : Int} {pf pt : Nat} (hd : decode c.code pc = .ok (.if_icmp .ne o, 3)) (hpf : pc + 3 = pf) (ho : 0 ≤ (pc : Int) + o) (hpt : ((pc : Int) + o).toNat = pt)
    (yes : ¬ x = y → own_WP p e below s Q k n (T.setTop (mkF m pt ls rest))) (no : x = y → own_WP p e below s Q k n (T.setTop (mkF m pf ls rest))) : own_WP p e below s Q k n (T.setTop (mkF m pc ls (.int y :: .int x :: rest))) := by
  subst hpf
  by_cases hq : ¬ x = y
  · exact own_of (fun t q => XS.icmpYes X.here hx rfl (pc0 := pc) (pc' := pt) rfl hd rfl ((feq hq).2) ho hpt q) (yes hq)
  · exact own_of (fun t q => XS.icmpNo X.here hx rfl hd rfl ((teq (Classical.not_not.mp hq)).2) q) (no (Classical.not_not.mp hq))
theorem own_if_ne (X : Stand p l e R s m args below meth c T locs cells slots) (hx : p.tables.exec = Jvm.exec) {x : Int32} {o : Int} {pf pt : Nat} (hd : decode c.code pc = .ok (.ifCond .ne o, 3)) (hpf : pc + 3 = pf) (ho : 0 ≤ (pc : Int) + o) (hpt : ((pc : Int) + o).toNat = pt)
    (yes : ¬ x = 0 → own_WP p e below s Q k n (T.setTop (mkF m pt ls rest))) (no : x = 0 → own_WP p e below s Q k n (T.setTop (mkF m pf ls rest))) : own_WP p e below s Q k n (T.setTop (mkF m pc ls (.int x :: rest))) := by
  subst hpf
  by_cases hq : ¬ x = 0
  · exact own_of (fun t q => XS.ifYes X.here hx rfl (pc0 := pc) (pc' := pt) rfl hd rfl ((if0 _ _).trans (feq hq).2) ho hpt q) (yes hq)
  · exact own_of (fun t q => XS.ifNo X.here hx rfl hd rfl ((if0 _ _).trans (teq (Classical.not_not.mp hq)).2) q) (no (Classical.not_not.mp hq))
theorem own_ifl_ne (X : Stand p l e R s m args below meth c T locs cells slots) (hx : p.tables.exec = Jvm.exec) {x y : Int64} {o : Int} {pf pt : Nat} (hd : decode c.code pc = .ok (.ifCond .ne o, 3)) (hpf : pc + 3 = pf) (ho : 0 ≤ (pc : Int) + o) (hpt : ((pc : Int) + o).toNat = pt)
    (yes : ¬ x = y → own_WP p e below s Q k n (T.setTop (mkF m pt ls rest))) (no : x = y → own_WP p e below s Q k n (T.setTop (mkF m pf ls rest))) : own_WP p e below s Q k n (T.setTop (mkF m pc ls (.int (lcmpW x y) :: rest))) := by
  subst hpf
  by_cases hq : ¬ x = y
  · exact own_of (fun t q => XS.ifYes X.here hx rfl (pc0 := pc) (pc' := pt) rfl hd rfl ((if0 _ _).trans (feq (fun z => hq ((lw_eq x y).mp z))).2) ho hpt q) (yes hq)
  · exact own_of (fun t q => XS.ifNo X.here hx rfl hd rfl ((if0 _ _).trans (teq ((lw_eq x y).mpr (Classical.not_not.mp hq))).2) q) (no (Classical.not_not.mp hq))
theorem own_getF (X : Stand p l e R s m args below meth c T locs cells slots) (hx : p.tables.exec = Jvm.exec) (hZ : Z.Warmed39 s.vm) {own R0 O nm d host : String} {idx : Nat} (hown : s.vm.findClass own = some m.cls) (w1 : (Jvm.Cond.fieldLink own idx R0 nm d).before a0 Z = true ∨ (Jvm.Cond.fieldLinkNest own idx R0 nm d host).before a0 Z = true) (via : Via Z R0 O nm d) (eT : T.heap = h) {b : Addr} {v : Value} (F : Fld Z h b O nm d v) (hd : decode c.code pc = .ok (.getfield idx, 3)) (hpc : pc + 3 = pc')
    (w : ∀ T', Stand p l e R s m args below meth c T' locs cells slots → T'.heap = h → own_WP p e below s Q k n (T'.setTop (mkF m pc' ls (v :: rest)))) : own_WP p e below s Q k n (T.setTop (mkF m pc ls (.ref b :: rest))) := by
  subst hpc
  obtain ⟨T', X', e', st⟩ := getF X hx hZ hown w1 via eT F (g := mkF m pc ls (.ref b :: rest)) rfl rfl hd
  exact own_of st (w T' X' e')
theorem own_putF (X : Stand p l e R s m args below meth c T locs cells slots) (hx : p.tables.exec = Jvm.exec) (hZ : Z.Warmed39 s.vm) {own R0 O nm d host C : String} {idx kk : Nat} {ty : FieldType} (hown : s.vm.findClass own = some m.cls) (w1 : (Jvm.Cond.fieldLink own idx R0 nm d).before a0 Z = true ∨ (Jvm.Cond.fieldLinkNest own idx R0 nm d host).before a0 Z = true) (via : Via Z R0 O nm d) (eT : T.heap = h) {b : Addr} {v old : Value} (F : Fld Z h b O nm d old) (E : Exa Z h b C) (L : (Jvm.Cond.lays C O nm d).before a0 Z = true ∨ ((Jvm.Cond.laysFinal C O nm d).before a0 Z = true ∧ own = O ∧ meth.name = "<init>")) (wi : (Jvm.Cond.instantiable C kk).before a0 Z = true) (hty : parseFieldDescriptor d = some ty) (hn : narrow ty v = v) (hf : fits ty v = true) (hd : decode c.code pc = .ok (.putfield idx, 3)) (hpc : pc + 3 = pc')
    (w : ∀ T' h', Stand p l e R s m args below meth c T' (locs ++ [⟨b, Jvm.RoadKit.slotOf Z O nm d⟩]) cells slots → T'.heap = h' → Wr h h' b (Jvm.RoadKit.slotOf Z O nm d) v → own_WP p e below s Q k n (T'.setTop (mkF m pc' ls rest))) : own_WP p e below s Q k n (T.setTop (mkF m pc ls (v :: .ref b :: rest))) := by
  subst hpc
  obtain ⟨T', h', X', e', W', st⟩ := putF X hx hZ hown w1 via eT F E L wi hty hn hf (g := mkF m pc ls (v :: .ref b :: rest)) rfl rfl hd
  exact own_of st (w T' h' X' e' W')
theorem own_new (X : Stand p l e R s m args below meth c T locs cells slots) (hx : p.tables.exec = Jvm.exec) (hZ : Z.Warmed39 s.vm) {own C : String} {idx nn : Nat} (hown : s.vm.findClass own = some m.cls) (w1 : (Jvm.Cond.classLink own idx C).before a0 Z = true) (wi : (Jvm.Cond.instantiable C nn).before a0 Z = true) (wz : (Jvm.Cond.initialized C).before a0 Z = true) (eT : T.heap = h) (hd : decode c.code pc = .ok (.new idx, 3)) (hc : cells + 1 ≤ R.cells) (hl : slots + nn ≤ R.slots) (hpc : pc + 3 = pc')
    (w : ∀ T' h' b, b = h.size → Stand p l e R s m args below meth c T' locs (cells + 1) (slots + nn) → T'.heap = h' → Ext h h' → Exa Z h' b C → (∀ {O nm d : String} {ty : FieldType}, Laid Z a0 C O nm d → parseFieldDescriptor d = some ty → Fld Z h' b O nm d (defaultValue ty)) → own_WP p e below s Q k n (T'.setTop (mkF m pc' ls (.ref b :: rest)))) : own_WP p e below s Q k n (T.setTop (mkF m pc ls rest)) := by
  subst hpc
  obtain ⟨T', h', X', e', E', A', D', -, st⟩ := newO X hx hZ hown w1 wi wz eT (g := mkF m pc ls rest) rfl hd hc hl
  exact own_of st (w T' h' _ rfl X' e' E' A' D')
theorem own_newP (X : Stand p l e R s m args below meth c T locs cells slots) (hx : p.tables.exec = Jvm.exec) (hZ : Z.Warmed39 s.vm) {aty : ArrayType} (w1 : (Jvm.Cond.arrayClass (newarray.typeOf aty)).before a0 Z = true) (eT : T.heap = h) (hd : decode c.code pc = .ok (.newarray aty, 2)) {z : Int32} (hz : ¬ z < 0) {cap : Nat} (hcap : z.toNatClampNeg ≤ cap) (hb : cap * 8 ≤ 536870912) (hc : cells + 1 ≤ R.cells) (hl : slots + cap ≤ R.slots) (hpc : pc + 2 = pc')
    (w : ∀ T' h' cA b, b = h.size → Stand p l e R s m args below meth c T' locs (cells + 1) (slots + cap) → T'.heap = h' → Ext h h' → Arr Z h' b (newA cA (newarray.typeOf aty) z) (newarray.typeOf aty) → own_WP p e below s Q k n (T'.setTop (mkF m pc' ls (.ref b :: rest)))) : own_WP p e below s Q k n (T.setTop (mkF m pc ls (.int z :: rest))) := by
  subst hpc
  obtain ⟨T', h', cA, X', e', E', A', st⟩ := newP X hx hZ w1 eT (g := mkF m pc ls (.int z :: rest)) rfl hd rfl hz hcap hb hc hl
  exact own_of st (w T' h' cA _ rfl X' e' E' A')
theorem own_initO (X : Stand p l e R s m args below meth c T locs cells slots) (hx : p.tables.exec = Jvm.exec) (hZ : Z.Warmed39 s.vm) {own : String} {idx : Nat} (hown : s.vm.findClass own = some m.cls) (w1 : (Jvm.Cond.methodLink own idx Lib.objectInit).before a0 Z = true) (w2 : (Jvm.Cond.instanceMethod Lib.objectInit).before a0 Z = true) (w3 : (Jvm.Cond.code Lib.objectInit ⟨#[0xb1]⟩ 1 none).before a0 Z = true) (eT : T.heap = h) (hsz : ls.size = c.maxLocals) {b : Addr} (hd : decode c.code pc = .ok (.invokespecial idx, 3)) (hf : 1 ≤ R.frames) {W : Nat} (hW : (rest.map fun v => v.category).sum ≤ W) (hl : W + 12 ≤ R.locals) (hpc : pc + 3 = pc')
    (w : ∀ T', Stand p l e R s m args below meth c T' locs cells slots → T'.heap = h → own_WP p e below s Q k n (T'.setTop (mkF m pc' ls rest))) : own_WP p e below s Q k n (T.setTop (mkF m pc ls (.ref b :: rest))) := by
  subst hpc
  obtain ⟨T', X', e', st⟩ := initO X hx hZ hown w1 w2 w3 eT (g := mkF m pc ls (.ref b :: rest)) rfl hsz rfl hd hf (W := W) (by show 2 * 0 + _ ≤ _; omega) hl
  exact own_of st (w T' X' e')
theorem own_callS (X : Stand p l e R s m args below meth c T locs cells slots) (hx : p.tables.exec = Jvm.exec) (hZ : Z.Warmed39 s.vm) {own : String} {idx : Nat} {y : MethodName} {bytes : ByteArray} {maxL : Nat} {ret : Option FieldType} {rm : Room} {as' : Array Value} {Q' : Option Value → Heap → List Loc → Prop} (hown : s.vm.findClass own = some m.cls) (w1 : (Jvm.Cond.methodLink own idx y).before a0 Z = true) (w2 : (Jvm.Cond.static y).before a0 Z = true) (w3 : (Jvm.Cond.initialized y.cls).before a0 Z = true) (w4 : (Jvm.Cond.code y bytes maxL ret).before a0 Z = true) (hy : y.cls ≠ "java/lang/invoke/MethodHandle" ∧ y.cls ≠ "java/lang/invoke/VarHandle")
    (C : own_Con l Z y bytes maxL ret rm as' h Q') (eT : T.heap = h) {ps : List FieldType} {rt : Option FieldType} (hpd : parseMethodDescriptor y.desc = some ⟨ps, rt⟩) (argsL rest : List Value) (ha : argsL.toArray = as') (hal : argsL.length = ps.length) {st : List Value} (hst : st = argsL.reverse ++ rest) {W : Nat} (hW : (rest.map fun v => v.category).sum ≤ W) (hf : rm.frames + 1 ≤ R.frames) (hl : W + (maxL + 11) + rm.locals ≤ R.locals) (hsz : ls.size = c.maxLocals) (hd : decode c.code pc = .ok (.invokestatic idx, 3)) (hc : cells + rm.cells ≤ R.cells) (hs : slots + rm.slots ≤ R.slots) (hpc : pc + 3 = pc')
    (w : ∀ v T' L, Stand p l e R s m args below meth c T' (locs ++ L) (cells + rm.cells) (slots + rm.slots) → Q' v T'.heap L → own_WP p e below s Q k n (T'.setTop (mkF m pc' ls (v.toList ++ rest)))) : own_WP p e below s Q k n (T.setTop (mkF m pc ls st)) := by
  subst hpc hst ha
  obtain ⟨v, vm1, ⟨T', L', k', n'⟩, -, X', ⟨Lc, hQ, l1, y1, z1⟩, stp⟩ := Jvm.LawKit.callS X hx (y := y) hown (mvT hZ w1) (mvT hZ w2) (mvT hZ w3) (mvT hZ w4) hy (backOf (W := W) (C []) hZ w4 w3 hf hl) (g := mkF m pc ls (argsL.reverse ++ rest)) rfl hsz (argsL := argsL) (rest := rest) (lenOf hpd hal) rfl (by show 2 * 0 + _ ≤ _; omega) hd (fun _ _ => ⟨rfl, eT, hc, hs⟩)
  dsimp only [Pt.U, Pt.locs, Pt.cells, Pt.slots] at X' l1 y1 z1 stp hQ
  subst l1 y1 z1
  exact own_of stp (w _ _ _ X' hQ)
theorem own_callN (X : Stand p l e R s m args below meth c T locs cells slots) (hx : p.tables.exec = Jvm.exec) (hZ : Z.Warmed39 s.vm) {own : String} {idx : Nat} {y : MethodName} {bytes : ByteArray} {maxL : Nat} {rm : Room} {as' : Array Value} {Q' : Option Value → Heap → List Loc → Prop} (hy1 : y.name = "<init>") (hown : s.vm.findClass own = some m.cls) (w1 : (Jvm.Cond.methodLink own idx y).before a0 Z = true) (w2 : (Jvm.Cond.instanceMethod y).before a0 Z = true) (w3 : (Jvm.Cond.initialized y.cls).before a0 Z = true) (w4 : (Jvm.Cond.code y bytes maxL none).before a0 Z = true) (hy : y.cls ≠ "java/lang/invoke/MethodHandle" ∧ y.cls ≠ "java/lang/invoke/VarHandle")
    (C : own_Con l Z y bytes maxL none rm as' h Q') (eT : T.heap = h) {ps : List FieldType} {rt : Option FieldType} (hpd : parseMethodDescriptor y.desc = some ⟨ps, rt⟩) (b : Addr) (argsL rest : List Value) (ha : (.ref b :: argsL).toArray = as') (hal : argsL.length = ps.length) {st : List Value} (hst : st = argsL.reverse ++ .ref b :: rest) {W : Nat} (hW : (rest.map fun v => v.category).sum ≤ W) (hf : rm.frames + 1 ≤ R.frames) (hl : W + (maxL + 11) + rm.locals ≤ R.locals) (hsz : ls.size = c.maxLocals) (hd : decode c.code pc = .ok (.invokespecial idx, 3)) (hc : cells + rm.cells ≤ R.cells) (hs : slots + rm.slots ≤ R.slots) (hpc : pc + 3 = pc')
    (w : ∀ v T' L, Stand p l e R s m args below meth c T' (locs ++ L) (cells + rm.cells) (slots + rm.slots) → Q' v T'.heap L → own_WP p e below s Q k n (T'.setTop (mkF m pc' ls (v.toList ++ rest)))) : own_WP p e below s Q k n (T.setTop (mkF m pc ls st)) := by
  subst hpc hst ha
  obtain ⟨v, vm1, ⟨T', L', k', n'⟩, -, X', ⟨Lc, hQ, l1, y1, z1⟩, stp⟩ := X.specialBack hx (y := y) hy1 hown (mvT hZ w1) (mvT hZ w2) (mvT hZ w4) hy (backOf (W := W) (C []) hZ w4 w3 hf hl) (g := mkF m pc ls (argsL.reverse ++ .ref b :: rest)) rfl hsz (Steps.refl _) (a := b) (argsL := argsL) (rest := rest) (lenOf hpd hal) rfl (by show 2 * 0 + _ ≤ _; omega) hd (fun _ _ => ⟨rfl, eT, hc, hs⟩)
  dsimp only [Pt.U, Pt.locs, Pt.cells, Pt.slots] at X' l1 y1 z1 stp hQ
  subst l1 y1 z1
  exact own_of (fun t q => stp.trans q) (w _ _ _ X' hQ)
theorem own_callV (X : Stand p l e R s m args below meth c T locs cells slots) (hx : p.tables.exec = Jvm.exec) (hZ : Z.Warmed39 s.vm) {own D : String} {idx : Nat} {y z : MethodName} {bytes : ByteArray} {maxL : Nat} {ret : Option FieldType} {rm : Room} {as' : Array Value} {Q' : Option Value → Heap → List Loc → Prop} (hown : s.vm.findClass own = some m.cls) (w1 : (Jvm.Cond.methodLink own idx y).before a0 Z = true) (wd : (Jvm.Cond.declares y).before a0 Z = true) (hnf : NotFace s y) (ws : (Jvm.Cond.selects D y z).before a0 Z = true) (w2 : (Jvm.Cond.instanceMethod z).before a0 Z = true) (w3 : (Jvm.Cond.initialized z.cls).before a0 Z = true) (w4 : (Jvm.Cond.code z bytes maxL ret).before a0 Z = true) (hy : y.cls ≠ "java/lang/invoke/MethodHandle" ∧ y.cls ≠ "java/lang/invoke/VarHandle") {b : Addr} (E : Exa Z h b D)
    (C : own_Con l Z z bytes maxL ret rm as' h Q') (eT : T.heap = h) {ps : List FieldType} {rt : Option FieldType} (hpd : parseMethodDescriptor y.desc = some ⟨ps, rt⟩) (argsL rest : List Value) (ha : (.ref b :: argsL).toArray = as') (hal : argsL.length = ps.length) {st : List Value} (hst : st = argsL.reverse ++ .ref b :: rest) {W : Nat} (hW : (rest.map fun v => v.category).sum ≤ W) (hf : rm.frames + 1 ≤ R.frames) (hl : W + (maxL + 11) + rm.locals ≤ R.locals) (hsz : ls.size = c.maxLocals) (hd : decode c.code pc = .ok (.invokevirtual idx, 3)) (hc : cells + rm.cells ≤ R.cells) (hs : slots + rm.slots ≤ R.slots) (hpc : pc + 3 = pc')
    (w : ∀ v T' L, Stand p l e R s m args below meth c T' (locs ++ L) (cells + rm.cells) (slots + rm.slots) → Q' v T'.heap L → own_WP p e below s Q k n (T'.setTop (mkF m pc' ls (v.toList ++ rest)))) : own_WP p e below s Q k n (T.setTop (mkF m pc ls st)) := by
  subst hpc hst ha
  obtain ⟨cq, kq, qa, qb, qc⟩ := isOf (T := T) hZ eT E
  obtain ⟨v, vm1, ⟨T', L', k', n'⟩, -, X', ⟨Lc, hQ, l1, y1, z1⟩, stp⟩ := X.virtualBack hx (y := y) (z := z) hown (mvT hZ w1) (mvT hZ wd) hnf (mvT hZ ws) (mvT hZ w2) hy (backOf (W := W) (C []) hZ w4 w3 hf hl) qa qc (g := mkF m pc ls (argsL.reverse ++ .ref b :: rest)) rfl hsz (Steps.refl _) (argsL := argsL) (rest := rest) (lenOf hpd hal) rfl (by show 2 * 0 + _ ≤ _; omega) hd (fun _ _ => ⟨rfl, eT, hc, hs⟩)
  dsimp only [Pt.U, Pt.locs, Pt.cells, Pt.slots] at X' l1 y1 z1 stp hQ
  subst l1 y1 z1
  exact own_of (fun t q => stp.trans q) (w _ _ _ X' hQ)

theorem own_laload (X : Stand p l e R s m args below meth c T locs cells slots) (hx : p.tables.exec = Jvm.exec) (hZ : Z.Warmed39 s.vm) (eT : T.heap = h) {b : Addr} {kk : ClassId} {z j : Int32} {vs : List Value} {dv v : Value} (F : Arv Z h b kk .long z vs dv) (hj : ¬ j < 0 ∧ j < z) (hv : vs.getD j.toNatClampNeg dv = v) (hd : decode c.code pc = .ok (.laload, 1)) (hpc : pc + 1 = pc') (w : own_WP p e below s Q k n (T.setTop (mkF m pc' ls (v :: rest)))) : own_WP p e below s Q k n (T.setTop (mkF m pc ls (.int j :: .ref b :: rest))) := by
  subst hpc
  obtain ⟨cl, A, q1, S, q3, H, G⟩ := F
  exact own_of (fun t q => X.laload hx (j := j) (v := v) (by rw [eT]; exact A.1) (State.isArrayOf_alike hZ.alike A.2.1) A.2.2 (inb_of S hj) (H.at (inb_of S hj) hv) (g := mkF m pc ls (.int j :: .ref b :: rest)) rfl rfl hd _ q) w
theorem own_baload (X : Stand p l e R s m args below meth c T locs cells slots) (hx : p.tables.exec = Jvm.exec) (hZ : Z.Warmed39 s.vm) (eT : T.heap = h) {b : Addr} {kk : ClassId} {z j : Int32} {vs : List Value} {dv v : Value} (F : Arv Z h b kk .byte z vs dv) (hj : ¬ j < 0 ∧ j < z) (hv : vs.getD j.toNatClampNeg dv = v) (hd : decode c.code pc = .ok (.baload, 1)) (hpc : pc + 1 = pc') (w : own_WP p e below s Q k n (T.setTop (mkF m pc' ls (v :: rest)))) : own_WP p e below s Q k n (T.setTop (mkF m pc ls (.int j :: .ref b :: rest))) := by
  subst hpc
  obtain ⟨cl, A, q1, S, q3, H, G⟩ := F
  exact own_of (fun t q => X.baloadBytes hx (j := j) (v := v) (by rw [eT]; exact A.1) (State.isArrayOf_alike hZ.alike A.2.1) A.2.2 (inb_of S hj) (H.at (inb_of S hj) hv) (g := mkF m pc ls (.int j :: .ref b :: rest)) rfl rfl hd _ q) w
theorem own_iaload (X : Stand p l e R s m args below meth c T locs cells slots) (hx : p.tables.exec = Jvm.exec) (hZ : Z.Warmed39 s.vm) (eT : T.heap = h) {b : Addr} {kk : ClassId} {z j : Int32} {vs : List Value} {dv v : Value} (F : Arv Z h b kk .int z vs dv) (hj : ¬ j < 0 ∧ j < z) (hv : vs.getD j.toNatClampNeg dv = v) (hd : decode c.code pc = .ok (.iaload, 1)) (hpc : pc + 1 = pc') (w : own_WP p e below s Q k n (T.setTop (mkF m pc' ls (v :: rest)))) : own_WP p e below s Q k n (T.setTop (mkF m pc ls (.int j :: .ref b :: rest))) := by
  subst hpc
  obtain ⟨cl, A, q1, S, q3, H, G⟩ := F
  exact own_of (fun t q => X.iaload hx (j := j) (v := v) (by rw [eT]; exact A.1) (State.isArrayOf_alike hZ.alike A.2.1) A.2.2 (inb_of S hj) (H.at (inb_of S hj) hv) (g := mkF m pc ls (.int j :: .ref b :: rest)) rfl rfl hd _ q) w
theorem own_caload (X : Stand p l e R s m args below meth c T locs cells slots) (hx : p.tables.exec = Jvm.exec) (hZ : Z.Warmed39 s.vm) (eT : T.heap = h) {b : Addr} {kk : ClassId} {z j : Int32} {vs : List Value} {dv v : Value} (F : Arv Z h b kk .char z vs dv) (hj : ¬ j < 0 ∧ j < z) (hv : vs.getD j.toNatClampNeg dv = v) (hd : decode c.code pc = .ok (.caload, 1)) (hpc : pc + 1 = pc') (w : own_WP p e below s Q k n (T.setTop (mkF m pc' ls (v :: rest)))) : own_WP p e below s Q k n (T.setTop (mkF m pc ls (.int j :: .ref b :: rest))) := by
  subst hpc
  obtain ⟨cl, A, q1, S, q3, H, G⟩ := F
  exact own_of (fun t q => X.caload hx (j := j) (v := v) (by rw [eT]; exact A.1) (State.isArrayOf_alike hZ.alike A.2.1) A.2.2 (inb_of S hj) (H.at (inb_of S hj) hv) (g := mkF m pc ls (.int j :: .ref b :: rest)) rfl rfl hd _ q) w
theorem own_lastore (X : Stand p l e R s m args below meth c T locs cells slots) (hx : p.tables.exec = Jvm.exec) (hZ : Z.Warmed39 s.vm) (eT : T.heap = h) {b : Addr} {kk : ClassId} {z j : Int32} {vs : List Value} {dv : Value} {x : Int64} (F : Arv Z h b kk .long z vs dv) (hj : ¬ j < 0 ∧ j < z) (i : Nat) (hi : j.toNatClampNeg = i) (hlen : i < vs.length) (hd : decode c.code pc = .ok (.lastore, 1)) (hpc : pc + 1 = pc') (w : ∀ T' h', Stand p l e R s m args below meth c T' (locs ++ [⟨b, j.toNatClampNeg⟩]) cells slots → T'.heap = h' → Wr h h' b j.toNatClampNeg (.long x) → Arv Z h' b kk .long z (vs.set i (.long x)) dv → own_WP p e below s Q k n (T'.setTop (mkF m pc' ls rest))) : own_WP p e below s Q k n (T.setTop (mkF m pc ls (.long x :: .int j :: .ref b :: rest))) := by
  subst hpc
  obtain ⟨cl, A, q1, S, q3, H, G⟩ := F
  obtain ⟨T', h', X', e', W', st⟩ := stJ X hx hZ eT A (j := j) (inb_of S hj) (g := mkF m pc ls (.long x :: .int j :: .ref b :: rest)) rfl rfl hd
  exact own_of st (w T' h' X' e' W' (Arv.set A q1 S q3 H G rfl W' i hi hlen))
theorem own_bastore (X : Stand p l e R s m args below meth c T locs cells slots) (hx : p.tables.exec = Jvm.exec) (hZ : Z.Warmed39 s.vm) (eT : T.heap = h) {b : Addr} {kk : ClassId} {z j : Int32} {vs : List Value} {dv : Value} {x : Int32} (F : Arv Z h b kk .byte z vs dv) (hj : ¬ j < 0 ∧ j < z) (i : Nat) (hi : j.toNatClampNeg = i) (hlen : i < vs.length) (hd : decode c.code pc = .ok (.bastore, 1)) (hpc : pc + 1 = pc') (w : ∀ T' h', Stand p l e R s m args below meth c T' (locs ++ [⟨b, j.toNatClampNeg⟩]) cells slots → T'.heap = h' → Wr h h' b j.toNatClampNeg (.int (nar .byte x)) → Arv Z h' b kk .byte z (vs.set i (.int (nar .byte x))) dv → own_WP p e below s Q k n (T'.setTop (mkF m pc' ls rest))) : own_WP p e below s Q k n (T.setTop (mkF m pc ls (.int x :: .int j :: .ref b :: rest))) := by
  subst hpc
  obtain ⟨cl, A, q1, S, q3, H, G⟩ := F
  obtain ⟨T', h', X', e', W', st⟩ := stB X hx hZ eT A (j := j) (inb_of S hj) (g := mkF m pc ls (.int x :: .int j :: .ref b :: rest)) rfl rfl hd
  exact own_of st (w T' h' X' e' W' (Arv.set A q1 S q3 H G (fits_nar_byte x) W' i hi hlen))
theorem own_iastore (X : Stand p l e R s m args below meth c T locs cells slots) (hx : p.tables.exec = Jvm.exec) (hZ : Z.Warmed39 s.vm) (eT : T.heap = h) {b : Addr} {kk : ClassId} {z j : Int32} {vs : List Value} {dv : Value} {x : Int32} (F : Arv Z h b kk .int z vs dv) (hj : ¬ j < 0 ∧ j < z) (i : Nat) (hi : j.toNatClampNeg = i) (hlen : i < vs.length) (hd : decode c.code pc = .ok (.iastore, 1)) (hpc : pc + 1 = pc') (w : ∀ T' h', Stand p l e R s m args below meth c T' (locs ++ [⟨b, j.toNatClampNeg⟩]) cells slots → T'.heap = h' → Wr h h' b j.toNatClampNeg (.int x) → Arv Z h' b kk .int z (vs.set i (.int x)) dv → own_WP p e below s Q k n (T'.setTop (mkF m pc' ls rest))) : own_WP p e below s Q k n (T.setTop (mkF m pc ls (.int x :: .int j :: .ref b :: rest))) := by
  subst hpc
  obtain ⟨cl, A, q1, S, q3, H, G⟩ := F
  obtain ⟨T', h', X', e', W', st⟩ := stI X hx hZ eT A (j := j) (inb_of S hj) (g := mkF m pc ls (.int x :: .int j :: .ref b :: rest)) rfl rfl hd
  exact own_of st (w T' h' X' e' W' (Arv.set A q1 S q3 H G rfl W' i hi hlen))
theorem own_arrlen (X : Stand p l e R s m args below meth c T locs cells slots) (hx : p.tables.exec = Jvm.exec) (hZ : Z.Warmed39 s.vm) (eT : T.heap = h) {b : Addr} {kk : ClassId} {z : Int32} {vs : List Value} {dv : Value} {ty : FieldType} (F : Arv Z h b kk ty z vs dv) (hd : decode c.code pc = .ok (.arraylength, 1)) (hpc : pc + 1 = pc') (w : own_WP p e below s Q k n (T.setTop (mkF m pc' ls (.int z :: rest)))) : own_WP p e below s Q k n (T.setTop (mkF m pc ls (.ref b :: rest))) := by
  subst hpc
  obtain ⟨cl, A, q1, S, q3, H, G⟩ := F
  refine own_of (fun t q => X.arraylength hx (by rw [eT]; exact A.1) (State.isArrayOf_alike hZ.alike A.2.1) (g := mkF m pc ls (.ref b :: rest)) rfl rfl hd _ ?_) w
  rw [len_of S q3]
  exact q
end OwnWP
def own_pos (p w r t : Nat) : Nat := t / 2 ^ r * 2 ^ r * p + t % 2 ^ r * w
theorem own_pos0 (p w t : Nat) : own_pos p w 0 t = t * p := by simp [own_pos, Nat.mod_one]
theorem own_posR (p w r t : Nat) (h : t < 2 ^ r) : own_pos p w r t = t * w := by
  unfold own_pos
  rw [Nat.div_eq_of_lt h, Nat.mod_eq_of_lt h]
  simp
theorem own_posUp (p w r t : Nat) (hp : w ≤ p) : own_pos p w r t + w ≤ own_pos p w r (t + 1) := by
  unfold own_pos
  have hP : 0 < 2 ^ r := Nat.pow_pos (by decide)
  generalize hPe : 2 ^ r = P at *
  have h1 := Nat.div_add_mod t P
  have h2 := Nat.mod_lt t hP
  have e : t + 1 = (t % P + 1) + P * (t / P) := by omega
  by_cases c : t % P + 1 = P
  · have e2 : t + 1 = P * (t / P + 1) := by rw [Nat.mul_add, Nat.mul_one]; omega
    rw [e2, Nat.mul_div_cancel_left _ hP, Nat.mul_mod_right, Nat.zero_mul, Nat.add_zero]
    have e3 : (t / P + 1) * P * p = t / P * P * p + P * p := by rw [Nat.add_mul, Nat.add_mul, Nat.one_mul]
    rw [e3]
    have e4 : t % P * w + w = P * w := by rw [← Nat.succ_mul]; congr 1
    have e5 : P * w ≤ P * p := Nat.mul_le_mul_left _ hp
    omega
  · have lt : t % P + 1 < P := by omega
    have d1 : (t + 1) / P = t / P := by rw [e, Nat.add_mul_div_left _ _ hP, Nat.div_eq_of_lt lt, Nat.zero_add]
    have d2 : (t + 1) % P = t % P + 1 := by
      have := Nat.div_add_mod (t + 1) P
      rw [d1] at this
      omega
    rw [d1, d2, Nat.add_mul (t % P) 1 w, Nat.one_mul]
    omega
theorem own_posLt (p w r : Nat) (hp : w ≤ p) {t t' : Nat} (h : t < t') : own_pos p w r t + w ≤ own_pos p w r t' := by
  induction t' with
  | zero => omega
  | succ k ih =>
    have := own_posUp p w r k hp
    by_cases e : t = k
    · subst e; exact this
    · have := ih (by omega); omega
theorem own_posInj (p w r : Nat) (hp : w ≤ p) {t t' j j' : Nat} (hj : j < w) (hj' : j' < w) (h : own_pos p w r t + j = own_pos p w r t' + j') : t = t' ∧ j = j' := by
  rcases Nat.lt_trichotomy t t' with q | q | q
  · have := own_posLt p w r hp q; omega
  · subst q; exact ⟨rfl, by omega⟩
  · have := own_posLt p w r hp q; omega
theorem own_pow1 (r : Nat) : 2 ^ (r + 1) = 2 ^ r * 2 := Nat.pow_succ ..
theorem own_posStep (p w g r t : Nat) (hg : p = w + g) : own_pos p w r t = own_pos p w (r + 1) t + (t / 2 ^ r % 2) * (2 ^ r * g) := by
  unfold own_pos
  rw [own_pow1]
  have hP : 0 < 2 ^ r := Nat.pow_pos (by decide)
  generalize 2 ^ r = P at *
  have e1 : t / (P * 2) = t / P / 2 := (Nat.div_div_eq_div_mul ..).symm
  have e2 : t % (P * 2) = t % P + P * (t / P % 2) := Nat.mod_mul ..
  rw [e1, e2]
  generalize ha : t / P = a
  have e3 : a = 2 * (a / 2) + a % 2 := (Nat.div_add_mod a 2).symm
  have e4 : a % 2 < 2 := Nat.mod_lt _ (by decide)
  generalize a / 2 = q at *
  generalize a % 2 = d at *
  generalize t % P = m
  subst hg e3
  rw [Nat.add_mul m, Nat.mul_add (_ * _) w g]
  have c1 : (2 * q + d) * P * w = q * (P * 2) * w + P * d * w := by
    rw [Nat.add_mul, Nat.add_mul]
    congr 1
    · congr 1; rw [Nat.mul_comm 2 q, Nat.mul_assoc, Nat.mul_comm 2 P]
    · rw [Nat.mul_comm d P]
  have c2 : (2 * q + d) * P * g = q * (P * 2) * g + d * (P * g) := by
    rw [Nat.add_mul, Nat.add_mul]
    congr 1
    · congr 1; rw [Nat.mul_comm 2 q, Nat.mul_assoc, Nat.mul_comm 2 P]
    · rw [Nat.mul_assoc]
  rw [c1, c2, Nat.mul_add (q * (P * 2)) w g]
  omega
def own_Ch (n w p r : Nat) (src : Nat → Nat → Bool) (f : Nat → Bool) : Prop := ∀ x, f x = true ↔ ∃ t j, t < n ∧ j < w ∧ x = own_pos p w r t + j ∧ src t j = true
def own_Mv (n w p r r' : Nat) (f : Nat → Bool) : Prop := ∀ x, f x = true ↔ ∃ t j, t < n ∧ j < w ∧ x = own_pos p w r' t + j ∧ t / 2 ^ r % 2 = 1
theorem own_gstep {n w p g r d : Nat} {src : Nat → Nat → Bool} {f M f' : Nat → Bool} (hg : p = w + g) (hd : d = 2 ^ r * g) (H : own_Ch n w p r src f) (HM : own_Mv n w p r r M) (hf : ∀ x, f' x = ((f x && !M x) || (f (x + d) && M (x + d)))) : own_Ch n w p (r + 1) src f' := by
  intro x
  have hp : w ≤ p := by omega
  rw [hf x, Bool.or_eq_true, Bool.and_eq_true, Bool.and_eq_true, Bool.not_eq_true', H x, H (x + d), HM (x + d)]
  constructor
  · rintro (⟨⟨t, j, h1, h2, h3, h4⟩, h5⟩ | ⟨⟨t, j, h1, h2, h3, h4⟩, t', j', h5, h6, h7, h8⟩)
    · refine ⟨t, j, h1, h2, ?_, h4⟩
      have st := own_posStep p w g r t hg
      have dg : t / 2 ^ r % 2 = 0 := by
        rcases Nat.mod_two_eq_zero_or_one (t / 2 ^ r) with q | q
        · exact q
        · have := (HM x).mpr ⟨t, j, h1, h2, h3, q⟩
          rw [h5] at this; cases this
      rw [dg, Nat.zero_mul, Nat.add_zero] at st
      rw [← st]; exact h3
    · obtain ⟨rfl, rfl⟩ := own_posInj p w r hp h2 h6 (h3.symm.trans h7)
      refine ⟨t, j, h1, h2, ?_, h4⟩
      have st := own_posStep p w g r t hg
      rw [h8, Nat.one_mul] at st
      omega
  · rintro ⟨t, j, h1, h2, h3, h4⟩
    have st := own_posStep p w g r t hg
    rcases Nat.mod_two_eq_zero_or_one (t / 2 ^ r) with q | q
    · rw [q, Nat.zero_mul, Nat.add_zero] at st
      refine Or.inl ⟨⟨t, j, h1, h2, by rw [st]; exact h3, h4⟩, ?_⟩
      cases hm : M x with
      | false => rfl
      | true =>
        obtain ⟨t', j', g1, g2, g3, g4⟩ := (HM x).mp hm
        obtain ⟨rfl, rfl⟩ := own_posInj p w r hp (t := t) (t' := t') (j := j) (j' := j') h2 g2 (by rw [st, ← h3]; exact g3)
        omega
    · rw [q, Nat.one_mul] at st
      exact Or.inr ⟨⟨t, j, h1, h2, by omega, h4⟩, t, j, h1, h2, by omega, q⟩
theorem own_sstep {n w p g r d : Nat} {src : Nat → Nat → Bool} {f M f' : Nat → Bool} (hg : p = w + g) (hd : d = 2 ^ r * g) (hB : ∀ t, t < n → own_pos p w r t + w ≤ 64) (H : own_Ch n w p (r + 1) src f) (HM : own_Mv n w p r (r + 1) M) (hf : ∀ x, x < 64 → f' x = ((f x && !M x) || (decide (d ≤ x) && (f (x - d) && M (x - d))))) (hbig : ∀ x, ¬ x < 64 → f' x = false) : own_Ch n w p r src f' := by
  intro x
  have hp : w ≤ p := by omega
  by_cases hx : x < 64
  · rw [hf x hx, Bool.or_eq_true, Bool.and_eq_true, Bool.and_eq_true, Bool.and_eq_true, Bool.not_eq_true', decide_eq_true_iff, H x, H (x - d), HM (x - d)]
    constructor
    · rintro (⟨⟨t, j, h1, h2, h3, h4⟩, h5⟩ | ⟨hdx, ⟨t, j, h1, h2, h3, h4⟩, t', j', h5, h6, h7, h8⟩)
      · refine ⟨t, j, h1, h2, ?_, h4⟩
        have st := own_posStep p w g r t hg
        have dg : t / 2 ^ r % 2 = 0 := by
          rcases Nat.mod_two_eq_zero_or_one (t / 2 ^ r) with q | q
          · exact q
          · have := (HM x).mpr ⟨t, j, h1, h2, h3, q⟩
            rw [h5] at this; cases this
        rw [dg, Nat.zero_mul, Nat.add_zero] at st
        rw [st]; exact h3
      · obtain ⟨rfl, rfl⟩ := own_posInj p w (r + 1) hp h2 h6 (h3.symm.trans h7)
        refine ⟨t, j, h1, h2, ?_, h4⟩
        have st := own_posStep p w g r t hg
        rw [h8, Nat.one_mul] at st
        omega
    · rintro ⟨t, j, h1, h2, h3, h4⟩
      have st := own_posStep p w g r t hg
      rcases Nat.mod_two_eq_zero_or_one (t / 2 ^ r) with q | q
      · rw [q, Nat.zero_mul, Nat.add_zero] at st
        refine Or.inl ⟨⟨t, j, h1, h2, by rw [← st]; exact h3, h4⟩, ?_⟩
        cases hm : M x with
        | false => rfl
        | true =>
          obtain ⟨t', j', g1, g2, g3, g4⟩ := (HM x).mp hm
          obtain ⟨rfl, rfl⟩ := own_posInj p w (r + 1) hp (t := t) (t' := t') (j := j) (j' := j') h2 g2 (by rw [← st, ← h3]; exact g3)
          omega
      · rw [q, Nat.one_mul] at st
        exact Or.inr ⟨by omega, ⟨t, j, h1, h2, by omega, h4⟩, t, j, h1, h2, by omega, q⟩
  · rw [hbig x hx]
    constructor
    · intro q; cases q
    · rintro ⟨t, j, h1, h2, h3, h4⟩
      have := hB t h1
      omega
def own_bit (v : Int64) (x : Nat) : Bool := v.toBitVec.getLsbD x
theorem own_bvU (x : Int64) (q : Int32) (k : Nat) (hk : q.toBitVec.toNat % 64 = k) : ((x.toUInt64 >>> (q &&& 0x3f).toInt64.toUInt64).toInt64).toBitVec = x.toBitVec >>> k := by
  have h5 := (sm64 q k hk).2
  show x.toBitVec >>> ((q &&& 0x3f).toInt64.toBitVec % 64) = _
  rw [BitVec.ushiftRight_eq', BitVec.toNat_umod, (sm64 q k hk).1, BitVec.toNat_ofNat]
  congr 1
  show k % 2 ^ 64 % 64 = k
  omega
theorem own_bvL (x : Int64) (q : Int32) (k : Nat) (hk : q.toBitVec.toNat % 64 = k) : (x <<< (q &&& 0x3f).toInt64).toBitVec = x.toBitVec <<< k := by
  show x.toBitVec <<< ((q &&& 0x3f).toInt64.toBitVec.smod 64) = _
  rw [BitVec.shiftLeft_eq', (sm64 q k hk).1, smod64 k (sm64 q k hk).2]
theorem own_bor (a b : Int64) (x : Nat) : own_bit (a ||| b) x = (own_bit a x || own_bit b x) := by
  show (a.toBitVec ||| b.toBitVec).getLsbD x = _
  exact BitVec.getLsbD_or ..
theorem own_band (a b : Int64) (x : Nat) : own_bit (a &&& b) x = (own_bit a x && own_bit b x) := by
  show (a.toBitVec &&& b.toBitVec).getLsbD x = _
  exact BitVec.getLsbD_and ..
theorem own_bxor (a b : Int64) (x : Nat) : own_bit (a ^^^ b) x = (own_bit a x ^^ own_bit b x) := by
  show (a.toBitVec ^^^ b.toBitVec).getLsbD x = _
  exact BitVec.getLsbD_xor ..
theorem own_bshr (a : Int64) (q : Int32) (k : Nat) (hk : q.toBitVec.toNat % 64 = k) (x : Nat) : own_bit ((a.toUInt64 >>> (q &&& 0x3f).toInt64.toUInt64).toInt64) x = own_bit a (x + k) := by
  unfold own_bit
  rw [own_bvU a q k hk, BitVec.getLsbD_ushiftRight, Nat.add_comm]
theorem own_bshl (a : Int64) (q : Int32) (k : Nat) (hk : q.toBitVec.toNat % 64 = k) (x : Nat) : own_bit (a <<< (q &&& 0x3f).toInt64) x = (decide (x < 64) && (decide (k ≤ x) && own_bit a (x - k))) := by
  unfold own_bit
  rw [own_bvL a q k hk, BitVec.getLsbD_shiftLeft, Bool.and_assoc]
  congr 2
  by_cases h : x < k
  · simp [h]
  · simp [h, Nat.le_of_not_lt h]
theorem own_bbig (a : Int64) (x : Nat) (h : ¬ x < 64) : own_bit a x = false := BitVec.getLsbD_of_ge _ _ (by omega)
/-- one round of gather, of spread -/
theorem own_gr (v M : Int64) (q : Int32) (k : Nat) (hk : q.toBitVec.toNat % 64 = k) (x : Nat) : own_bit ((v ^^^ (v &&& M)) ||| (((v &&& M).toUInt64 >>> (q &&& 0x3f).toInt64.toUInt64).toInt64)) x = ((own_bit v x && !own_bit M x) || (own_bit v (x + k) && own_bit M (x + k))) := by
  rw [own_bor, own_bxor, own_band, own_bshr _ q k hk, own_band]
  cases own_bit v x <;> cases own_bit M x <;> rfl
theorem own_sr (v M : Int64) (q : Int32) (k : Nat) (hk : q.toBitVec.toNat % 64 = k) (x : Nat) (hx : x < 64) : own_bit ((v ^^^ (v &&& M)) ||| ((v &&& M) <<< (q &&& 0x3f).toInt64)) x = ((own_bit v x && !own_bit M x) || (decide (k ≤ x) && (own_bit v (x - k) && own_bit M (x - k)))) := by
  rw [own_bor, own_bxor, own_band, own_bshl _ q k hk, own_band]
  have : decide (x < 64) = true := by simpa using hx
  rw [this]
  cases own_bit v x <;> cases own_bit M x <;> rfl
/-- the width's bits -/
theorem own_wb (q : Int32) (w : Nat) (h1 : 1 ≤ w) (h2 : w ≤ 64) (hq : q.toBitVec.toNat % 64 = (64 - w) % 64) (x : Nat) : own_bit (((-1 : Int64).toUInt64 >>> (q &&& 0x3f).toInt64.toUInt64).toInt64) x = decide (x < w) := by
  rw [own_bshr _ q _ hq]
  have e : ∀ y, own_bit (-1) y = decide (y < 64) := by
    intro y
    show (BitVec.allOnes 64).getLsbD y = _
    exact BitVec.getLsbD_allOnes
  rw [e, Nat.mod_eq_of_lt (by omega)]
  by_cases h : x < w
  · simp [h]; omega
  · simp [h]; omega
/-- one run more -/
theorem own_addrun (v wb : Int64) (q : Int32) (k w : Nat) (hk : q.toBitVec.toNat % 64 = k) (hw : ∀ x, own_bit wb x = decide (x < w)) (hkw : k + w ≤ 64) (x : Nat) : own_bit (v ||| (wb <<< (q &&& 0x3f).toInt64)) x = true ↔ (own_bit v x = true ∨ ∃ j, j < w ∧ x = k + j) := by
  rw [own_bor, own_bshl _ q k hk, hw, Bool.or_eq_true, Bool.and_eq_true, Bool.and_eq_true, decide_eq_true_iff, decide_eq_true_iff, decide_eq_true_iff]
  constructor
  · rintro (h | ⟨h1, h2, h3⟩)
    · exact Or.inl h
    · exact Or.inr ⟨x - k, h3, by omega⟩
  · rintro (h | ⟨j, h1, h2⟩)
    · exact Or.inl h
    · exact Or.inr ⟨by omega, by omega, by omega⟩
theorem own_shq (q : Int32) (k : Nat) (h : q.toInt = (k : Int)) : q.toBitVec.toNat % 64 = k % 64 := by
  have e : q.toInt = q.toBitVec.toInt := rfl
  rw [e, BitVec.toInt_eq_toNat_cond] at h
  have := q.toBitVec.isLt
  split at h <;> omega
theorem own_mulN {a b : Int32} {x y : Nat} (ha : a.toInt = (x : Int)) (hb : b.toInt = (y : Int)) (h : x * y < 2147483648) : (a * b).toInt = ((x * y : Nat) : Int) := by
  have c := c_imul a b
  have r := rng32 (a * b)
  rw [ha, hb, ← Int.natCast_mul] at c
  omega
theorem own_addN {a b : Int32} {x y : Nat} (ha : a.toInt = (x : Int)) (hb : b.toInt = (y : Int)) (h : x + y < 2147483648) : (a + b).toInt = ((x + y : Nat) : Int) := by
  have c := c_iadd a b
  have r := rng32 (a + b)
  omega
theorem own_subN {a b : Int32} {x y : Nat} (ha : a.toInt = (x : Int)) (hb : b.toInt = (y : Int)) (h : y ≤ x) : (a - b).toInt = ((x - y : Nat) : Int) := by
  have c := c_isub a b
  have r := rng32 (a - b)
  have r2 := rng32 a
  omega
theorem own_ltN {a b : Int32} {x y : Nat} (ha : a.toInt = (x : Int)) (hb : b.toInt = (y : Int)) : a < b ↔ x < y := by
  rw [Int32.lt_iff_toInt_lt, ha, hb]; omega
/-- the digit that the constructor asks: (run >>> r) & 1 -/
theorem own_small : ∀ t : Fin 64, ∀ r : Fin 5, (((Int32.ofNat t.val).toUInt32 >>> ((Int32.ofNat r.val) &&& 31).toUInt32).toInt32 &&& 1 = 0 ↔ t.val / 2 ^ r.val % 2 = 0) ∧ ((Int32.ofNat t.val) &&& (((1 : Int32) <<< ((Int32.ofNat r.val) &&& 31)) - 1)).toInt = ((t.val % 2 ^ r.val : Nat) : Int) := by decide +kernel
theorem own_ofN {a : Int32} {x : Nat} (h : a.toInt = (x : Int)) (hx : x < 2147483648) : a = Int32.ofNat x := by
  apply Int32.toInt_inj.mp
  rw [h, Int32.toInt_ofNat_of_lt (by omega)]
theorem own_digit {a q : Int32} {t r : Nat} (ha : a.toInt = (t : Int)) (hq : q.toInt = (r : Int)) (ht : t < 64) (hr : r < 5) : ((a.toUInt32 >>> (q &&& 31).toUInt32).toInt32 &&& 1 = 0 ↔ t / 2 ^ r % 2 = 0) ∧ (a &&& (((1 : Int32) <<< (q &&& 31)) - 1)).toInt = ((t % 2 ^ r : Nat) : Int) := by
  have := own_small ⟨t, ht⟩ ⟨r, hr⟩
  rw [own_ofN ha (by omega), own_ofN hq (by omega)]
  exact this
theorem own_posle (p w r t : Nat) (h : w ≤ p) : own_pos p w r t ≤ t * p := by
  unfold own_pos
  have h1 := Nat.div_add_mod t (2 ^ r)
  have h2 : t % 2 ^ r * w ≤ t % 2 ^ r * p := Nat.mul_le_mul_left _ h
  have h3 : t * p = t / 2 ^ r * 2 ^ r * p + t % 2 ^ r * p := by rw [← Nat.add_mul, Nat.mul_comm (t / 2 ^ r)]; congr 1; exact h1.symm
  omega
theorem own_posSub (p w g r t : Nat) (hg : p = w + g) : own_pos p w r t = t * p - (t % 2 ^ r) * g := by
  unfold own_pos
  have h1 := Nat.div_add_mod t (2 ^ r)
  have h3 : t * p = t / 2 ^ r * 2 ^ r * p + t % 2 ^ r * p := by rw [← Nat.add_mul, Nat.mul_comm (t / 2 ^ r)]; congr 1; exact h1.symm
  rw [h3, hg, Nat.mul_add (t % 2 ^ r) w g]
  omega
theorem own_tp {n p w t : Nat} (h : (n - 1) * p + w ≤ 64) (ht : t < n) : t * p + w ≤ 64 := by
  have : t * p ≤ (n - 1) * p := Nat.mul_le_mul_right _ (by omega)
  omega
theorem own_nle {n p w : Nat} (h : (n - 1) * p + w ≤ 64) (hw : 1 ≤ w) (hp : w ≤ p) : n ≤ 64 := by
  have : (n - 1) * 1 ≤ (n - 1) * p := Nat.mul_le_mul_left _ (by omega)
  omega
/-- 'before': where the run lies ahead of round r -/
theorem own_before {run P G A : Int32} {t p w g r : Nat} (h1 : run.toInt = (t : Int)) (h2 : P.toInt = (p : Int)) (h3 : G.toInt = (g : Int)) (hg : p = w + g) (hA : A.toInt = ((t % 2 ^ r : Nat) : Int)) (hb : t * p ≤ 64) : (run * P - A * G).toInt = ((own_pos p w r t : Nat) : Int) := by
  have e1 := own_mulN h1 h2 (by omega)
  have hle : t % 2 ^ r * g ≤ t * p := by
    have a : t % 2 ^ r * g ≤ t * g := Nat.mul_le_mul_right _ (Nat.mod_le _ _)
    have b : t * g ≤ t * p := Nat.mul_le_mul_left _ (by omega)
    omega
  have e2 := own_mulN hA h3 (by omega)
  rw [own_subN e1 e2 hle, own_posSub p w g r t hg]
/-- what is kept of a mask while the runs are laid -/
def own_Up (n w p r : Nat) (D : Nat → Prop) (v : Int64) : Prop := ∀ x, own_bit v x = true ↔ ∃ t j, t < n ∧ j < w ∧ x = own_pos p w r t + j ∧ D t
theorem own_Up0 (w p r : Nat) (D : Nat → Prop) : own_Up 0 w p r D 0 := by
  intro x
  have e : own_bit 0 x = false := by show (0#64).getLsbD x = false; exact BitVec.getLsbD_zero
  rw [e]
  constructor
  · intro h; cases h
  · rintro ⟨t, j, h, _⟩; exact absurd h (Nat.not_lt_zero _)
theorem own_UpNo {n w p r : Nat} {D : Nat → Prop} {v : Int64} (H : own_Up n w p r D v) (h : ¬ D n) : own_Up (n + 1) w p r D v := fun x => by
  rw [H x]
  constructor
  · rintro ⟨t, j, h1, h2⟩; exact ⟨t, j, by omega, h2⟩
  · rintro ⟨t, j, h1, h2, h3, h4⟩
    have : t ≠ n := by rintro rfl; exact h h4
    exact ⟨t, j, by omega, h2, h3, h4⟩
theorem own_UpYes {n w p r : Nat} {D : Nat → Prop} {v wb : Int64} {q : Int32} (H : own_Up n w p r D v) (h : D n) (hq : q.toInt = ((own_pos p w r n : Nat) : Int)) (hb : own_pos p w r n + w ≤ 64) (hw1 : 1 ≤ w) (hwb : ∀ x, own_bit wb x = decide (x < w)) : own_Up (n + 1) w p r D (v ||| (wb <<< (q &&& 0x3f).toInt64)) := fun x => by
  have hk : q.toBitVec.toNat % 64 = own_pos p w r n := by rw [own_shq q _ hq, Nat.mod_eq_of_lt (by omega)]
  rw [own_addrun v wb q _ w hk hwb hb, H x]
  constructor
  · rintro (⟨t, j, h1, h2⟩ | ⟨j, h1, h2⟩)
    · exact ⟨t, j, by omega, h2⟩
    · exact ⟨n, j, by omega, h1, h2, h⟩
  · rintro ⟨t, j, h1, h2, h3, h4⟩
    by_cases e : t = n
    · subst e; exact Or.inr ⟨j, h2, h3⟩
    · exact Or.inl ⟨t, j, by omega, h2, h3, h4⟩
/-- the rounds: what is known of their number R -/
def own_RP (p w n R : Nat) : Prop := R ≤ 5 ∧ (∀ t, t < n → own_pos p w R t = t * w) ∧ ∀ r, r < R → 2 ^ r < n
theorem own_RP0 {p w n : Nat} (h : p = w) : own_RP p w n 0 := ⟨by decide, fun t _ => by rw [own_pos0, h], fun r h => absurd h (Nat.not_lt_zero _)⟩
theorem own_RPn {p w n R : Nat} (h5 : R ≤ 5) (h1 : n ≤ 2 ^ R) (h2 : ∀ r, r < R → 2 ^ r < n) : own_RP p w n R := ⟨h5, fun t ht => own_posR p w R t (by omega), h2⟩
def own_lz (x : Int32) : Int32 := if 0 < x then (let a := if x < 65536 then (x, (31 : Int32)) else ((x.toUInt32 >>> ((16 : Int32) &&& 31).toUInt32).toInt32, 31 + -16); let b := if a.1 < 256 then a else ((a.1.toUInt32 >>> ((8 : Int32) &&& 31).toUInt32).toInt32, a.2 + -8); let c := if b.1 < 16 then b else ((b.1.toUInt32 >>> ((4 : Int32) &&& 31).toUInt32).toInt32, b.2 + -4); let d := if c.1 < 4 then c else ((c.1.toUInt32 >>> ((2 : Int32) &&& 31).toUInt32).toInt32, c.2 + -2); d.2 - (d.1.toUInt32 >>> ((1 : Int32) &&& 31).toUInt32).toInt32) else if x = 0 then 32 else 0
theorem own_lzv : ∀ x : Fin 32, ∃ R : Fin 6, (32 - own_lz (Int32.ofNat x.val)).toInt = ((R.val : Nat) : Int) ∧ x.val + 1 ≤ 2 ^ R.val ∧ ∀ r : Fin 5, r.val < R.val → 2 ^ r.val < x.val + 1 := by decide +kernel
theorem own_rounds {p w g n : Nat} {N : Int32} (hN : N.toInt = (n : Int)) (hn : 1 ≤ n) (hg : p = w + g) (hg0 : ¬ g = 0) (hw : 1 ≤ w) (h : (n - 1) * p + w ≤ 64) : ∃ R : Nat, (32 - own_lz (N - 1)).toInt = (R : Int) ∧ own_RP p w n R := by
  have h2 : (n - 1) * 2 ≤ (n - 1) * p := Nat.mul_le_mul_left _ (by omega)
  have e := own_subN hN (show (1 : Int32).toInt = ((1 : Nat) : Int) by decide) hn
  rw [own_ofN e (by omega)]
  obtain ⟨R, r1, r2, r3⟩ := own_lzv ⟨n - 1, by omega⟩
  have hR := R.isLt
  refine ⟨R.val, r1, own_RPn (by omega) (by simp only at r2; omega) (fun r hr => ?_)⟩
  have := r3 ⟨r, by omega⟩ hr
  simp only at this
  omega
theorem own_nz {y : Int32} {k : Nat} (h : y.toInt = (k : Int)) (hk : 1 ≤ k) : y ≠ 0 := by
  rintro rfl
  have : (0 : Int32).toInt = 0 := by decide
  omega
theorem own_msk (a : Int32) : 0 ≤ (a &&& (2147483647 : Int32)).toInt := (c_and a 2147483647 (by decide)).1
theorem own_rem {x y : Int32} {k : Nat} (hx : 0 ≤ x.toInt) (hy : y.toInt = (k : Int)) (hk : 1 ≤ k) : ∃ z : Nat, (x % y).toInt = (z : Int) ∧ z < k := by
  obtain ⟨h1, h2, -⟩ := (c_iremV x y).1 hx (by omega)
  exact ⟨(x % y).toInt.toNat, by omega, by omega⟩
theorem own_one : (1 : Int32).toInt = ((1 : Nat) : Int) := by decide
theorem own_64 : (64 : Int32).toInt = ((64 : Nat) : Int) := by decide
theorem own_65 : (65 : Int32).toInt = ((65 : Nat) : Int) := by decide
theorem own_divN {x y : Int32} {a b : Nat} (hx : x.toInt = (a : Int)) (hy : y.toInt = (b : Int)) (hb : 1 ≤ b) : (x / y).toInt = ((a / b : Nat) : Int) := by
  have hne : y ≠ -1 := by
    rintro rfl
    have : (-1 : Int32).toInt = -1 := by decide
    omega
  rw [Int32.toInt_div_of_ne_right x y hne, hx, hy]
  rfl
theorem own_w1 {a v : Int32} (h : v = 1 + (a &&& (2147483647 : Int32)) % 64) : ∃ wn : Nat, v.toInt = (wn : Int) ∧ 1 ≤ wn ∧ wn ≤ 64 := by
  obtain ⟨z, h1, h2⟩ := own_rem (own_msk a) own_64 (by decide)
  exact ⟨1 + z, by rw [h]; exact own_addN own_one h1 (by omega), by omega, by omega⟩
theorem own_p1 {w b v : Int32} {wn : Nat} (hW : w.toInt = (wn : Int)) (h64 : wn ≤ 64) (h : v = w + (b &&& (2147483647 : Int32)) % (65 - w)) : ∃ pn : Nat, v.toInt = (pn : Int) ∧ wn ≤ pn ∧ pn ≤ 64 := by
  have e := own_subN own_65 hW (by omega)
  obtain ⟨z, h1, h2⟩ := own_rem (own_msk b) e (by omega)
  exact ⟨wn + z, by rw [h]; exact own_addN hW h1 (by omega), by omega, by omega⟩
theorem own_x1 {w p : Int32} {wn pn : Nat} (hW : w.toInt = (wn : Int)) (hP : p.toInt = (pn : Int)) (h64 : wn ≤ 64) (h1 : 1 ≤ pn) : ((64 - w) / p).toInt = (((64 - wn) / pn : Nat) : Int) ∧ (64 - wn) / pn ≤ 64 := by
  refine ⟨own_divN (own_subN own_64 hW h64) hP h1, ?_⟩
  have := Nat.div_le_self (64 - wn) pn
  omega
theorem own_n1 {c x v : Int32} {q : Nat} (hx : x.toInt = ((1 + q : Nat) : Int)) (hq : q ≤ 64) (h : v = 1 + (c &&& (2147483647 : Int32)) % x) : ∃ nn : Nat, v.toInt = (nn : Int) ∧ 1 ≤ nn ∧ nn - 1 ≤ q := by
  obtain ⟨z, h1, h2⟩ := own_rem (own_msk c) hx (by omega)
  exact ⟨1 + z, by rw [h]; exact own_addN own_one h1 (by omega), by omega, by omega⟩
theorem own_sp {wn pn nn : Nat} (h64 : wn ≤ 64) (h : nn - 1 ≤ (64 - wn) / pn) : (nn - 1) * pn + wn ≤ 64 := by
  have a : (nn - 1) * pn ≤ (64 - wn) / pn * pn := Nat.mul_le_mul_right _ h
  have b := Nat.div_mul_le_self (64 - wn) pn
  omega
theorem own_spv {w p n v : Int32} {wn pn nn : Nat} (hW : w.toInt = (wn : Int)) (hP : p.toInt = (pn : Int)) (hN : n.toInt = (nn : Int)) (hn : 1 ≤ nn) (h : (nn - 1) * pn + wn ≤ 64) (hv : v = (n - 1) * p + w) : v.toInt = (((nn - 1) * pn + wn : Nat) : Int) := by
  rw [hv]
  exact own_addN (own_mulN (own_subN hN own_one hn) hP (by omega)) hW (by omega)
theorem own_s1 {d sp v : Int32} {k : Nat} (hk : sp.toInt = (k : Int)) (h64 : k ≤ 64) (h : v = (d &&& (2147483647 : Int32)) % (65 - sp)) : ∃ sn : Nat, v.toInt = (sn : Int) ∧ sn + k ≤ 64 := by
  obtain ⟨z, h1, h2⟩ := own_rem (own_msk d) (own_subN own_65 hk (by omega)) (by omega)
  exact ⟨z, by rw [h]; exact h1, by omega⟩
/-- the low bit behind a shift -/
theorem own_and1 (x : Int64) (q : Int32) (k : Nat) (hk : q.toBitVec.toNat % 64 = k) : (((x.toUInt64 >>> (q &&& 0x3f).toInt64.toUInt64).toInt64) &&& 1) = if own_bit x k then 1 else 0 := by
  apply Int64.toBitVec_inj.mp
  apply BitVec.eq_of_getLsbD_eq
  intro i hi
  have e1 : (((x.toUInt64 >>> (q &&& 0x3f).toInt64.toUInt64).toInt64) &&& 1).toBitVec.getLsbD i = (own_bit x (i + k) && own_bit 1 i) := by
    show own_bit _ i = _
    rw [own_band, own_bshr x q k hk]
  have e2 : own_bit 1 i = decide (i = 0) := by
    show (1#64).getLsbD i = _
    rw [BitVec.getLsbD_one]
    by_cases h : i = 0 <;> simp [h, eq_comm]
  rw [e1, e2]
  by_cases h : i = 0
  · subst h
    rw [Nat.zero_add]
    cases own_bit x k <;> decide
  · have e3 : ((if own_bit x k = true then (1 : Int64) else 0).toBitVec.getLsbD i) = false := by
      cases own_bit x k
      · show (0#64).getLsbD i = false; exact BitVec.getLsbD_zero
      · show (1#64).getLsbD i = false
        rw [BitVec.getLsbD_one]; simp [h, eq_comm]
    rw [e3]; simp [h]
theorem own_zero64 (x : Int64) (h : ∀ i, own_bit x i = false) : x = 0 := by
  apply Int64.toBitVec_inj.mp
  apply BitVec.eq_of_getLsbD_eq
  intro i hi
  rw [show x.toBitVec.getLsbD i = false from h i]
  exact BitVec.getLsbD_zero.symm
/-- gather's start -/
theorem own_ch0 {nn wn pn sn : Nat} {rn wd : Int64} {st : Int32} (hS : st.toBitVec.toNat % 64 = sn) (H : own_Up nn wn pn 0 (fun _ => True) rn) : own_Ch nn wn pn 0 (fun t j => own_bit wd (t * pn + j + sn)) (own_bit (((wd.toUInt64 >>> (st &&& 0x3f).toInt64.toUInt64).toInt64) &&& rn)) := by
  intro x
  rw [own_band, own_bshr wd st sn hS, Bool.and_eq_true, H x]
  constructor
  · rintro ⟨h0, t, j, h1, h2, h3, -⟩
    refine ⟨t, j, h1, h2, h3, ?_⟩
    rw [own_pos0] at h3
    show own_bit wd (t * pn + j + sn) = true
    rw [← h3]; exact h0
  · rintro ⟨t, j, h1, h2, h3, h4⟩
    refine ⟨?_, t, j, h1, h2, h3, trivial⟩
    rw [own_pos0] at h3
    rw [h3]; exact h4
/-- behind the last round -/
theorem own_chR {nn wn pn R : Nat} {src : Nat → Nat → Bool} {f : Nat → Bool} (hp : wn ≤ pn) (hR : ∀ t, t < nn → own_pos pn wn R t = t * wn) (H : own_Ch nn wn pn R src f) : (∀ x, nn * wn ≤ x → f x = false) ∧ ∀ t j, t < nn → j < wn → f (t * wn + j) = src t j := by
  constructor
  · intro x hx
    cases hf : f x with
    | false => rfl
    | true =>
      obtain ⟨t, j, h1, h2, h3, -⟩ := (H x).mp hf
      rw [hR t h1] at h3
      have : (t + 1) * wn ≤ nn * wn := Nat.mul_le_mul_right _ (by omega)
      rw [Nat.add_mul, Nat.one_mul] at this
      omega
  · intro t j h1 h2
    cases hs : src t j with
    | true => exact (H _).mpr ⟨t, j, h1, h2, by rw [hR t h1], hs⟩
    | false =>
      cases hf : f (t * wn + j) with
      | false => rfl
      | true =>
        obtain ⟨t', j', g1, g2, g3, g4⟩ := (H _).mp hf
        obtain ⟨rfl, rfl⟩ := own_posInj pn wn R hp (t := t) (t' := t') (j := j) (j' := j') h2 g2 (by rw [hR t h1]; exact g3)
        rw [hs] at g4; cases g4

theorem own_UpMv {nn wn pn r g : Nat} {M U : Int64} {d : Int32} (hg : pn = wn + g) (hd : d.toBitVec.toNat % 64 = 2 ^ r * g) (H : own_Up nn wn pn r (fun t => t / 2 ^ r % 2 = 1) M) (hU : U = ((M.toUInt64 >>> (d &&& 0x3f).toInt64.toUInt64).toInt64)) : own_Mv nn wn pn r (r + 1) (own_bit U) := by
  intro x
  rw [hU, own_bshr M d _ hd, H (x + 2 ^ r * g)]
  constructor
  · rintro ⟨t, j, h1, h2, h3, h4⟩
    have st := own_posStep pn wn g r t hg
    rw [h4, Nat.one_mul] at st
    exact ⟨t, j, h1, h2, by omega, h4⟩
  · rintro ⟨t, j, h1, h2, h3, h4⟩
    have st := own_posStep pn wn g r t hg
    rw [h4, Nat.one_mul] at st
    exact ⟨t, j, h1, h2, by omega, h4⟩
/-- spread's start: the low bits, read as runs at their last places -/
theorem own_chL {nn wn pn R : Nat} {lo bt : Int64} (hw : 1 ≤ wn) (hR : ∀ t, t < nn → own_pos pn wn R t = t * wn) (hlo : ∀ x, own_bit lo x = decide (x < nn * wn)) : own_Ch nn wn pn R (fun t j => own_bit bt (t * wn + j)) (own_bit (bt &&& lo)) := by
  intro x
  rw [own_band, hlo, Bool.and_eq_true, decide_eq_true_iff]
  constructor
  · rintro ⟨h1, h2⟩
    have hlt : x / wn < nn := by
      rw [Nat.div_lt_iff_lt_mul (by omega)]; exact h2
    have e := Nat.div_add_mod x wn
    refine ⟨x / wn, x % wn, hlt, Nat.mod_lt _ (by omega), ?_, ?_⟩
    · rw [hR _ hlt, Nat.mul_comm]; exact e.symm
    · show own_bit bt (x / wn * wn + x % wn) = true
      rw [Nat.mul_comm, e]; exact h1
  · rintro ⟨t, j, h1, h2, h3, h4⟩
    rw [hR t h1] at h3
    subst h3
    refine ⟨h4, ?_⟩
    have : (t + 1) * wn ≤ nn * wn := Nat.mul_le_mul_right _ (by omega)
    rw [Nat.add_mul, Nat.one_mul] at this
    omega
theorem own_posB {nn wn pn : Nat} (r : Nat) (hsp : (nn - 1) * pn + wn ≤ 64) (hwp : wn ≤ pn) : ∀ t, t < nn → own_pos pn wn r t + wn ≤ 64 := fun t ht => by
  have := own_posle pn wn r t hwp
  have := own_tp hsp ht
  omega
/-- what the law asks of the word spread at bit q -/
theorem own_spread {nn wn pn sn : Nat} {z bt : Int64} {st : Int32} (hp1 : 1 ≤ pn) (hS : st.toBitVec.toNat % 64 = sn) (hwp : wn ≤ pn) (H : own_Ch nn wn pn 0 (fun t j => own_bit bt (t * wn + j)) (own_bit z)) (q : Nat) (hq : q < 64) : own_bit (z <<< (st &&& 0x3f).toInt64) q = (decide (sn ≤ q) && (decide ((q - sn) / pn < nn) && (decide ((q - sn) % pn < wn) && own_bit bt ((q - sn) / pn * wn + (q - sn) % pn)))) := by
  rw [own_bshl _ st sn hS]
  have e0 : decide (q < 64) = true := by simpa using hq
  rw [e0, Bool.true_and]
  congr 1
  generalize q - sn = o
  have key : own_bit z o = true ↔ (o / pn < nn ∧ o % pn < wn ∧ own_bit bt (o / pn * wn + o % pn) = true) := by
    rw [H o]
    constructor
    · rintro ⟨t, j, h1, h2, h3, h4⟩
      rw [own_pos0] at h3
      have d1 : o / pn = t := by rw [h3, Nat.mul_comm, Nat.mul_add_div (by omega), Nat.div_eq_of_lt (by omega), Nat.add_zero]
      have d2 : o % pn = j := by rw [h3, Nat.mul_comm, Nat.mul_add_mod, Nat.mod_eq_of_lt (by omega)]
      rw [d1, d2]
      exact ⟨h1, h2, h4⟩
    · rintro ⟨h1, h2, h3⟩
      refine ⟨o / pn, o % pn, h1, h2, ?_, h3⟩
      rw [own_pos0, Nat.mul_comm]
      exact (Nat.div_add_mod o pn).symm
  by_cases c1 : o / pn < nn
  · by_cases c2 : o % pn < wn
    · simp only [c1, c2, decide_true, Bool.true_and]
      cases hb : own_bit bt (o / pn * wn + o % pn) with
      | true => exact key.mpr ⟨c1, c2, hb⟩
      | false =>
        cases hz : own_bit z o with
        | false => rfl
        | true => have := (key.mp hz).2.2; rw [hb] at this; cases this
    · simp only [c2, decide_false, Bool.false_and, Bool.and_false]
      cases hz : own_bit z o with
      | false => rfl
      | true => exact absurd (key.mp hz).2.1 c2
  · simp only [c1, decide_false, Bool.false_and]
    cases hz : own_bit z o with
    | false => rfl
    | true => exact absurd (key.mp hz).1 c1
theorem own_w2 {a v : Int32} (h : v = 1 + (a &&& (63 : Int32))) : ∃ wn : Nat, v.toInt = (wn : Int) ∧ 1 ≤ wn ∧ wn ≤ 64 := by
  have b := c_and a 63 (by decide)
  rw [show (63 : Int32).toInt = 63 from by decide] at b
  exact ⟨1 + (a &&& 63).toInt.toNat, by rw [h]; exact own_addN own_one (show (a &&& 63).toInt = (((a &&& 63).toInt.toNat : Nat) : Int) by omega) (by omega), by omega, by omega⟩
theorem own_q63 {a v : Int32} (h : v = a &&& (63 : Int32)) : ∃ q : Nat, v.toInt = (q : Int) ∧ q < 64 := by
  have b := c_and a 63 (by decide)
  rw [show (63 : Int32).toInt = 63 from by decide, ← h] at b
  exact ⟨v.toInt.toNat, by omega, by omega⟩
theorem own_modN {x y : Int32} {a b : Nat} (hx : x.toInt = (a : Int)) (hy : y.toInt = (b : Int)) : (x % y).toInt = ((a % b : Nat) : Int) := by
  rw [Int32.toInt_mod, hx, hy]
  rfl

/-- what the constructor's numbers are -/
def own_N (s w p n : Int32) (sn wn pn nn : Nat) : Prop := s.toInt = (sn : Int) ∧ w.toInt = (wn : Int) ∧ p.toInt = (pn : Int) ∧ n.toInt = (nn : Int) ∧ 1 ≤ wn ∧ wn ≤ pn ∧ 1 ≤ nn ∧ sn + (nn - 1) * pn + wn ≤ 64
/-- what the fields hold: rn: the runs; lo: the low bits; for each round r below R: m r, u r, d r -/
def own_WM (wn pn nn R : Nat) (rn lo : Int64) (m u : Nat → Int64) (d : Nat → Int32) : Prop :=
  own_RP pn wn nn R ∧ own_Up nn wn pn 0 (fun _ => True) rn ∧ (∀ x, own_bit lo x = decide (x < nn * wn)) ∧ ∀ r, r < R → own_Up nn wn pn r (fun t => t / 2 ^ r % 2 = 1) (m r) ∧ u r = (((m r).toUInt64 >>> ((d r) &&& 0x3f).toInt64.toUInt64).toInt64) ∧ (d r).toBitVec.toNat % 64 = 2 ^ r * (pn - wn)
def own_5 {α : Type} (a b c d e : α) (i : Nat) : α := match i with | 0 => a | 1 => b | 2 => c | 3 => d | _ => e
theorem own_g5 (v0 v1 v2 v3 v4 : Int64) (r : Nat) (h : r < 5) : [Value.long v0, Value.long v1, Value.long v2, Value.long v3, Value.long v4].getD r (.long 0) = .long (own_5 v0 v1 v2 v3 v4 r) := by
  match r, h with
  | 0, _ => rfl
  | 1, _ => rfl
  | 2, _ => rfl
  | 3, _ => rfl
  | 4, _ => rfl
theorem own_cntle {nn wn pn : Nat} (h : (nn - 1) * pn + wn ≤ 64) (hp : wn ≤ pn) (hn : 1 ≤ nn) : nn * wn ≤ 64 := by
  have a : (nn - 1) * wn ≤ (nn - 1) * pn := Nat.mul_le_mul_left _ hp
  have b : nn * wn = (nn - 1) * wn + wn := by
    obtain ⟨k, rfl⟩ : ∃ k, nn = k + 1 := ⟨nn - 1, by omega⟩
    rw [Nat.add_mul, Nat.one_mul]; rfl
  omega
theorem own_wbq (w : Int32) (wn : Nat) (hW : w.toInt = (wn : Int)) (h1 : 1 ≤ wn) (h2 : wn ≤ 64) : ∀ x, own_bit (((-1 : Int64).toUInt64 >>> (((64 : Int32) - w) &&& 0x3f).toInt64.toUInt64).toInt64) x = decide (x < wn) := by
  have e := own_subN (show (64 : Int32).toInt = ((64 : Nat) : Int) by decide) hW h2
  exact own_wb _ wn h1 h2 (own_shq _ _ e)
theorem own_dist (g : Int32) (gn k : Nat) (q : Int32) (hq : q.toInt = (k : Int)) (hk : k < 5) (hg : g.toInt = (gn : Int)) (h : 2 ^ k * gn < 64) : (g <<< (q &&& 31)).toBitVec.toNat % 64 = 2 ^ k * gn := by
  have q32 : q.toBitVec.toNat % 32 = k := by
    have e : q.toInt = q.toBitVec.toInt := rfl
    rw [e, BitVec.toInt_eq_toNat_cond] at hq
    have := q.toBitVec.isLt
    split at hq <;> omega
  have c := c_ishl g q k q32
  rw [hg, ← Int.natCast_mul, Nat.mul_comm gn] at c
  have r := rng32 (g <<< (q &&& 31))
  have e : (g <<< (q &&& 31)).toInt = ((2 ^ k * gn : Nat) : Int) := by
    generalize 2 ^ k * gn = y at *
    omega
  rw [own_shq _ _ e, Nat.mod_eq_of_lt h]
theorem own_z0 : (0 : Int32).toInt = ((0 : Nat) : Int) := by decide
theorem own_RPz {g : Int32} {pn wn : Nat} (hG : g.toInt = ((pn - wn : Nat) : Int)) (h : g = 0) (hp : wn ≤ pn) : pn = wn := by
  rw [h, own_z0] at hG
  omega
theorem own_dlt {nn pn wn r : Nat} (h : (nn - 1) * pn + wn ≤ 64) (h1 : 1 ≤ wn) (hr : 2 ^ r < nn) : 2 ^ r * (pn - wn) < 64 := by
  have a : 2 ^ r * (pn - wn) ≤ (nn - 1) * (pn - wn) := Nat.mul_le_mul_right _ (by omega)
  have b : (nn - 1) * (pn - wn) ≤ (nn - 1) * pn := Nat.mul_le_mul_left _ (by omega)
  omega

theorem own_getset (vs : List Value) (r : Nat) (v d : Value) (h : r < vs.length) : (vs.set r v).getD r d = v := by
  rw [List.getD_eq_getElem?_getD, List.getElem?_set_self h]; rfl

theorem d3_0 : decode jdk_33_method_47_code 0 = .ok (.iload_n 0, 1) := by decide +kernel
theorem d3_1 : decode jdk_33_method_47_code 1 = .ok (.ifCond .gt 14, 3) := by decide +kernel
theorem d3_4 : decode jdk_33_method_47_code 4 = .ok (.iload_n 0, 1) := by decide +kernel
theorem d3_5 : decode jdk_33_method_47_code 5 = .ok (.ifCond .ne 8, 3) := by decide +kernel
theorem d3_8 : decode jdk_33_method_47_code 8 = .ok (.bipush 32, 2) := by decide +kernel
theorem d3_10 : decode jdk_33_method_47_code 10 = .ok (.goto 4, 3) := by decide +kernel
theorem d3_13 : decode jdk_33_method_47_code 13 = .ok (.iconst 0, 1) := by decide +kernel
theorem d3_14 : decode jdk_33_method_47_code 14 = .ok (.ireturn, 1) := by decide +kernel
theorem d3_15 : decode jdk_33_method_47_code 15 = .ok (.bipush 31, 2) := by decide +kernel
theorem d3_17 : decode jdk_33_method_47_code 17 = .ok (.istore_n 1, 1) := by decide +kernel
theorem d3_18 : decode jdk_33_method_47_code 18 = .ok (.iload_n 0, 1) := by decide +kernel
theorem d3_19 : decode jdk_33_method_47_code 19 = .ok (.ldc_w 264, 3) := by decide +kernel
theorem d3_22 : decode jdk_33_method_47_code 22 = .ok (.if_icmp .lt 11, 3) := by decide +kernel
theorem d3_25 : decode jdk_33_method_47_code 25 = .ok (.iinc 1 (-16), 3) := by decide +kernel
theorem d3_28 : decode jdk_33_method_47_code 28 = .ok (.iload_n 0, 1) := by decide +kernel
theorem d3_29 : decode jdk_33_method_47_code 29 = .ok (.bipush 16, 2) := by decide +kernel
theorem d3_31 : decode jdk_33_method_47_code 31 = .ok (.iushr, 1) := by decide +kernel
theorem d3_32 : decode jdk_33_method_47_code 32 = .ok (.istore_n 0, 1) := by decide +kernel
theorem d3_33 : decode jdk_33_method_47_code 33 = .ok (.iload_n 0, 1) := by decide +kernel
theorem d3_34 : decode jdk_33_method_47_code 34 = .ok (.sipush 256, 3) := by decide +kernel
theorem d3_37 : decode jdk_33_method_47_code 37 = .ok (.if_icmp .lt 11, 3) := by decide +kernel
theorem d3_40 : decode jdk_33_method_47_code 40 = .ok (.iinc 1 (-8), 3) := by decide +kernel
theorem d3_43 : decode jdk_33_method_47_code 43 = .ok (.iload_n 0, 1) := by decide +kernel
theorem d3_44 : decode jdk_33_method_47_code 44 = .ok (.bipush 8, 2) := by decide +kernel
theorem d3_46 : decode jdk_33_method_47_code 46 = .ok (.iushr, 1) := by decide +kernel
theorem d3_47 : decode jdk_33_method_47_code 47 = .ok (.istore_n 0, 1) := by decide +kernel
theorem d3_48 : decode jdk_33_method_47_code 48 = .ok (.iload_n 0, 1) := by decide +kernel
theorem d3_49 : decode jdk_33_method_47_code 49 = .ok (.bipush 16, 2) := by decide +kernel
theorem d3_51 : decode jdk_33_method_47_code 51 = .ok (.if_icmp .lt 10, 3) := by decide +kernel
theorem d3_54 : decode jdk_33_method_47_code 54 = .ok (.iinc 1 (-4), 3) := by decide +kernel
theorem d3_57 : decode jdk_33_method_47_code 57 = .ok (.iload_n 0, 1) := by decide +kernel
theorem d3_58 : decode jdk_33_method_47_code 58 = .ok (.iconst 4, 1) := by decide +kernel
theorem d3_59 : decode jdk_33_method_47_code 59 = .ok (.iushr, 1) := by decide +kernel
theorem d3_60 : decode jdk_33_method_47_code 60 = .ok (.istore_n 0, 1) := by decide +kernel
theorem d3_61 : decode jdk_33_method_47_code 61 = .ok (.iload_n 0, 1) := by decide +kernel
theorem d3_62 : decode jdk_33_method_47_code 62 = .ok (.iconst 4, 1) := by decide +kernel
theorem d3_63 : decode jdk_33_method_47_code 63 = .ok (.if_icmp .lt 10, 3) := by decide +kernel
theorem d3_66 : decode jdk_33_method_47_code 66 = .ok (.iinc 1 (-2), 3) := by decide +kernel
theorem d3_69 : decode jdk_33_method_47_code 69 = .ok (.iload_n 0, 1) := by decide +kernel
theorem d3_70 : decode jdk_33_method_47_code 70 = .ok (.iconst 2, 1) := by decide +kernel
theorem d3_71 : decode jdk_33_method_47_code 71 = .ok (.iushr, 1) := by decide +kernel
theorem d3_72 : decode jdk_33_method_47_code 72 = .ok (.istore_n 0, 1) := by decide +kernel
theorem d3_73 : decode jdk_33_method_47_code 73 = .ok (.iload_n 1, 1) := by decide +kernel
theorem d3_74 : decode jdk_33_method_47_code 74 = .ok (.iload_n 0, 1) := by decide +kernel
theorem d3_75 : decode jdk_33_method_47_code 75 = .ok (.iconst 1, 1) := by decide +kernel
theorem d3_76 : decode jdk_33_method_47_code 76 = .ok (.iushr, 1) := by decide +kernel
theorem d3_77 : decode jdk_33_method_47_code 77 = .ok (.isub, 1) := by decide +kernel
theorem d3_78 : decode jdk_33_method_47_code 78 = .ok (.ireturn, 1) := by decide +kernel
theorem pn_3 : plainFor (⟨"java/lang/Integer", "numberOfLeadingZeros", "(I)I"⟩ : MethodName) = true := plainFor_of_name (by first | (simp [plainName, overriddenIn]; done) | decide +kernel)
theorem ef_conZ (m : MethodId) (c1 : Int32) : entryFrame m #[(.int c1)] 2 = mkF m 0 #[.val (.int c1), .unset] [] := by first | (simp [entryFrame, mkF, argsToLocals, Value.category]; done) | rfl
set_option maxRecDepth 65536 in
set_option maxHeartbeats 4000000 in
theorem conZ (l : Launch) (Z : State) (a0 : Array Value) (hw : ∀ d ∈ tables_1, d.before a0 Z = true) (c1 : Int32) (h0 : Heap) :
    own_Con l Z (⟨"java/lang/Integer", "numberOfLeadingZeros", "(I)I"⟩ : MethodName) jdk_33_method_47_code 2 (some .int) ({ frames := 0, cells := 0, slots := 0, locals := 0 } : Room) #[(.int c1)] h0 (fun v h L => ∃ z : Int32, v = some (.int z) ∧ (z = own_lz c1) ∧ L = [] ∧ h = h0) := by
  refine own_Con_of pn_3 ?_
  intro p e s m below meth c s₁ X0 hx hby hml hret hlk hnm hown hZ e0
  have hown : s.vm.findClass "java/lang/Integer" = some m.cls := hown
  have hml : c.maxLocals = 2 := hml
  show own_WP _ _ _ _ _ _ _ (s₁.setTop (entryFrame m #[(.int c1)] 2))
  rw [ef_conZ m c1]
  refine own_iloadN (pc' := 1) X0 hx (hb hby d3_0) rfl rfl ?_
  refine own_if_gt (pt := 15) (pf := 4) X0 hx (hb hby d3_1) rfl (by decide) rfl (fun hc1 => ?_) (fun hc1 => ?_)
  · skip
    refine own_bipush (pc' := 17) X0 hx (31 : Int32) (hb hby d3_15) rfl rfl ?_
    refine own_istoreN (pc' := 18) (l' := #[.val (.int c1), .val (.int (31 : Int32))]) X0 hx (hb hby d3_17) rfl rfl rfl ?_
    refine own_iloadN (pc' := 19) X0 hx (hb hby d3_18) rfl rfl ?_
    refine own_ldcwInt (pc' := 22) X0 hx hZ hown (own_w hw 14 rfl) (hb hby d3_19) rfl ?_
    refine own_icmp_lt (pt := 33) (pf := 25) X0 hx (hb hby d3_22) rfl (by decide) rfl (fun hc22 => ?_) (fun hc22 => ?_)
    · skip
      refine own_iloadN (pc' := 34) X0 hx (hb hby d3_33) rfl rfl ?_
      refine own_sipush (pc' := 37) X0 hx (256 : Int32) (hb hby d3_34) rfl rfl ?_
      refine own_icmp_lt (pt := 48) (pf := 40) X0 hx (hb hby d3_37) rfl (by decide) rfl (fun hc37 => ?_) (fun hc37 => ?_)
      · skip
        refine own_iloadN (pc' := 49) X0 hx (hb hby d3_48) rfl rfl ?_
        refine own_bipush (pc' := 51) X0 hx (16 : Int32) (hb hby d3_49) rfl rfl ?_
        refine own_icmp_lt (pt := 61) (pf := 54) X0 hx (hb hby d3_51) rfl (by decide) rfl (fun hc51 => ?_) (fun hc51 => ?_)
        · skip
          refine own_iloadN (pc' := 62) X0 hx (hb hby d3_61) rfl rfl ?_
          refine own_iconst (pc' := 63) X0 hx (4 : Int32) (hb hby d3_62) rfl rfl ?_
          refine own_icmp_lt (pt := 73) (pf := 66) X0 hx (hb hby d3_63) rfl (by decide) rfl (fun hc63 => ?_) (fun hc63 => ?_)
          · skip
            refine own_iloadN (pc' := 74) X0 hx (hb hby d3_73) rfl rfl ?_
            refine own_iloadN (pc' := 75) X0 hx (hb hby d3_74) rfl rfl ?_
            refine own_iconst (pc' := 76) X0 hx (1 : Int32) (hb hby d3_75) rfl rfl ?_
            refine own_iushr (pc' := 77) X0 hx (hb hby d3_76) rfl ?_
            refine own_isub (pc' := 78) X0 hx (hb hby d3_77) rfl ?_
            refine own_retI X0 hx hlk hret (hb hby d3_78) (by decide) (by decide) ?_
            refine ⟨((31 : Int32) - ((c1.toUInt32 >>> ((1 : Int32) &&& 31).toUInt32).toInt32)), rfl, ?_, rfl, e0⟩
            unfold own_lz
            subst_vars
            simp only [hc1, hc22, hc37, hc51, hc63, if_true, if_false, ite_true, ite_false]
            try rfl
          · skip
            refine own_iinc (pc' := 69) (l' := #[.val (.int c1), .val (.int (29 : Int32))]) X0 hx (hb hby d3_66) rfl (by decide) rfl rfl ?_
            refine own_iloadN (pc' := 70) X0 hx (hb hby d3_69) rfl rfl ?_
            refine own_iconst (pc' := 71) X0 hx (2 : Int32) (hb hby d3_70) rfl rfl ?_
            refine own_iushr (pc' := 72) X0 hx (hb hby d3_71) rfl ?_
            obtain ⟨v1, hv1⟩ : ∃ z : Int32, z = ((c1.toUInt32 >>> ((2 : Int32) &&& 31).toUInt32).toInt32) := ⟨_, rfl⟩
            refine own_istoreN (pc' := 73) (l' := #[.val (.int v1), .val (.int (29 : Int32))]) X0 hx (hb hby d3_72) hv1 rfl rfl ?_
            refine own_iloadN (pc' := 74) X0 hx (hb hby d3_73) rfl rfl ?_
            refine own_iloadN (pc' := 75) X0 hx (hb hby d3_74) rfl rfl ?_
            refine own_iconst (pc' := 76) X0 hx (1 : Int32) (hb hby d3_75) rfl rfl ?_
            refine own_iushr (pc' := 77) X0 hx (hb hby d3_76) rfl ?_
            refine own_isub (pc' := 78) X0 hx (hb hby d3_77) rfl ?_
            refine own_retI X0 hx hlk hret (hb hby d3_78) (by decide) (by decide) ?_
            refine ⟨((29 : Int32) - ((v1.toUInt32 >>> ((1 : Int32) &&& 31).toUInt32).toInt32)), rfl, ?_, rfl, e0⟩
            unfold own_lz
            subst_vars
            simp only [hc1, hc22, hc37, hc51, hc63, if_true, if_false, ite_true, ite_false]
            try rfl
        · skip
          refine own_iinc (pc' := 57) (l' := #[.val (.int c1), .val (.int (27 : Int32))]) X0 hx (hb hby d3_54) rfl (by decide) rfl rfl ?_
          refine own_iloadN (pc' := 58) X0 hx (hb hby d3_57) rfl rfl ?_
          refine own_iconst (pc' := 59) X0 hx (4 : Int32) (hb hby d3_58) rfl rfl ?_
          refine own_iushr (pc' := 60) X0 hx (hb hby d3_59) rfl ?_
          obtain ⟨v2, hv2⟩ : ∃ z : Int32, z = ((c1.toUInt32 >>> ((4 : Int32) &&& 31).toUInt32).toInt32) := ⟨_, rfl⟩
          refine own_istoreN (pc' := 61) (l' := #[.val (.int v2), .val (.int (27 : Int32))]) X0 hx (hb hby d3_60) hv2 rfl rfl ?_
          refine own_iloadN (pc' := 62) X0 hx (hb hby d3_61) rfl rfl ?_
          refine own_iconst (pc' := 63) X0 hx (4 : Int32) (hb hby d3_62) rfl rfl ?_
          refine own_icmp_lt (pt := 73) (pf := 66) X0 hx (hb hby d3_63) rfl (by decide) rfl (fun hc63 => ?_) (fun hc63 => ?_)
          · skip
            refine own_iloadN (pc' := 74) X0 hx (hb hby d3_73) rfl rfl ?_
            refine own_iloadN (pc' := 75) X0 hx (hb hby d3_74) rfl rfl ?_
            refine own_iconst (pc' := 76) X0 hx (1 : Int32) (hb hby d3_75) rfl rfl ?_
            refine own_iushr (pc' := 77) X0 hx (hb hby d3_76) rfl ?_
            refine own_isub (pc' := 78) X0 hx (hb hby d3_77) rfl ?_
            refine own_retI X0 hx hlk hret (hb hby d3_78) (by decide) (by decide) ?_
            refine ⟨((27 : Int32) - ((v2.toUInt32 >>> ((1 : Int32) &&& 31).toUInt32).toInt32)), rfl, ?_, rfl, e0⟩
            unfold own_lz
            subst_vars
            simp only [hc1, hc22, hc37, hc51, hc63, if_true, if_false, ite_true, ite_false]
            try rfl
          · skip
            refine own_iinc (pc' := 69) (l' := #[.val (.int v2), .val (.int (25 : Int32))]) X0 hx (hb hby d3_66) rfl (by decide) rfl rfl ?_
            refine own_iloadN (pc' := 70) X0 hx (hb hby d3_69) rfl rfl ?_
            refine own_iconst (pc' := 71) X0 hx (2 : Int32) (hb hby d3_70) rfl rfl ?_
            refine own_iushr (pc' := 72) X0 hx (hb hby d3_71) rfl ?_
            obtain ⟨v3, hv3⟩ : ∃ z : Int32, z = ((v2.toUInt32 >>> ((2 : Int32) &&& 31).toUInt32).toInt32) := ⟨_, rfl⟩
            refine own_istoreN (pc' := 73) (l' := #[.val (.int v3), .val (.int (25 : Int32))]) X0 hx (hb hby d3_72) hv3 rfl rfl ?_
            refine own_iloadN (pc' := 74) X0 hx (hb hby d3_73) rfl rfl ?_
            refine own_iloadN (pc' := 75) X0 hx (hb hby d3_74) rfl rfl ?_
            refine own_iconst (pc' := 76) X0 hx (1 : Int32) (hb hby d3_75) rfl rfl ?_
            refine own_iushr (pc' := 77) X0 hx (hb hby d3_76) rfl ?_
            refine own_isub (pc' := 78) X0 hx (hb hby d3_77) rfl ?_
            refine own_retI X0 hx hlk hret (hb hby d3_78) (by decide) (by decide) ?_
            refine ⟨((25 : Int32) - ((v3.toUInt32 >>> ((1 : Int32) &&& 31).toUInt32).toInt32)), rfl, ?_, rfl, e0⟩
            unfold own_lz
            subst_vars
            simp only [hc1, hc22, hc37, hc51, hc63, if_true, if_false, ite_true, ite_false]
            try rfl
      · skip
        refine own_iinc (pc' := 43) (l' := #[.val (.int c1), .val (.int (23 : Int32))]) X0 hx (hb hby d3_40) rfl (by decide) rfl rfl ?_
        refine own_iloadN (pc' := 44) X0 hx (hb hby d3_43) rfl rfl ?_
        refine own_bipush (pc' := 46) X0 hx (8 : Int32) (hb hby d3_44) rfl rfl ?_
        refine own_iushr (pc' := 47) X0 hx (hb hby d3_46) rfl ?_
        obtain ⟨v4, hv4⟩ : ∃ z : Int32, z = ((c1.toUInt32 >>> ((8 : Int32) &&& 31).toUInt32).toInt32) := ⟨_, rfl⟩
        refine own_istoreN (pc' := 48) (l' := #[.val (.int v4), .val (.int (23 : Int32))]) X0 hx (hb hby d3_47) hv4 rfl rfl ?_
        refine own_iloadN (pc' := 49) X0 hx (hb hby d3_48) rfl rfl ?_
        refine own_bipush (pc' := 51) X0 hx (16 : Int32) (hb hby d3_49) rfl rfl ?_
        refine own_icmp_lt (pt := 61) (pf := 54) X0 hx (hb hby d3_51) rfl (by decide) rfl (fun hc51 => ?_) (fun hc51 => ?_)
        · skip
          refine own_iloadN (pc' := 62) X0 hx (hb hby d3_61) rfl rfl ?_
          refine own_iconst (pc' := 63) X0 hx (4 : Int32) (hb hby d3_62) rfl rfl ?_
          refine own_icmp_lt (pt := 73) (pf := 66) X0 hx (hb hby d3_63) rfl (by decide) rfl (fun hc63 => ?_) (fun hc63 => ?_)
          · skip
            refine own_iloadN (pc' := 74) X0 hx (hb hby d3_73) rfl rfl ?_
            refine own_iloadN (pc' := 75) X0 hx (hb hby d3_74) rfl rfl ?_
            refine own_iconst (pc' := 76) X0 hx (1 : Int32) (hb hby d3_75) rfl rfl ?_
            refine own_iushr (pc' := 77) X0 hx (hb hby d3_76) rfl ?_
            refine own_isub (pc' := 78) X0 hx (hb hby d3_77) rfl ?_
            refine own_retI X0 hx hlk hret (hb hby d3_78) (by decide) (by decide) ?_
            refine ⟨((23 : Int32) - ((v4.toUInt32 >>> ((1 : Int32) &&& 31).toUInt32).toInt32)), rfl, ?_, rfl, e0⟩
            unfold own_lz
            subst_vars
            simp only [hc1, hc22, hc37, hc51, hc63, if_true, if_false, ite_true, ite_false]
            try rfl
          · skip
            refine own_iinc (pc' := 69) (l' := #[.val (.int v4), .val (.int (21 : Int32))]) X0 hx (hb hby d3_66) rfl (by decide) rfl rfl ?_
            refine own_iloadN (pc' := 70) X0 hx (hb hby d3_69) rfl rfl ?_
            refine own_iconst (pc' := 71) X0 hx (2 : Int32) (hb hby d3_70) rfl rfl ?_
            refine own_iushr (pc' := 72) X0 hx (hb hby d3_71) rfl ?_
            obtain ⟨v5, hv5⟩ : ∃ z : Int32, z = ((v4.toUInt32 >>> ((2 : Int32) &&& 31).toUInt32).toInt32) := ⟨_, rfl⟩
            refine own_istoreN (pc' := 73) (l' := #[.val (.int v5), .val (.int (21 : Int32))]) X0 hx (hb hby d3_72) hv5 rfl rfl ?_
            refine own_iloadN (pc' := 74) X0 hx (hb hby d3_73) rfl rfl ?_
            refine own_iloadN (pc' := 75) X0 hx (hb hby d3_74) rfl rfl ?_
            refine own_iconst (pc' := 76) X0 hx (1 : Int32) (hb hby d3_75) rfl rfl ?_
            refine own_iushr (pc' := 77) X0 hx (hb hby d3_76) rfl ?_
            refine own_isub (pc' := 78) X0 hx (hb hby d3_77) rfl ?_
            refine own_retI X0 hx hlk hret (hb hby d3_78) (by decide) (by decide) ?_
            refine ⟨((21 : Int32) - ((v5.toUInt32 >>> ((1 : Int32) &&& 31).toUInt32).toInt32)), rfl, ?_, rfl, e0⟩
            unfold own_lz
            subst_vars
            simp only [hc1, hc22, hc37, hc51, hc63, if_true, if_false, ite_true, ite_false]
            try rfl
        · skip
          refine own_iinc (pc' := 57) (l' := #[.val (.int v4), .val (.int (19 : Int32))]) X0 hx (hb hby d3_54) rfl (by decide) rfl rfl ?_
          refine own_iloadN (pc' := 58) X0 hx (hb hby d3_57) rfl rfl ?_
          refine own_iconst (pc' := 59) X0 hx (4 : Int32) (hb hby d3_58) rfl rfl ?_
          refine own_iushr (pc' := 60) X0 hx (hb hby d3_59) rfl ?_
          obtain ⟨v6, hv6⟩ : ∃ z : Int32, z = ((v4.toUInt32 >>> ((4 : Int32) &&& 31).toUInt32).toInt32) := ⟨_, rfl⟩
          refine own_istoreN (pc' := 61) (l' := #[.val (.int v6), .val (.int (19 : Int32))]) X0 hx (hb hby d3_60) hv6 rfl rfl ?_
          refine own_iloadN (pc' := 62) X0 hx (hb hby d3_61) rfl rfl ?_
          refine own_iconst (pc' := 63) X0 hx (4 : Int32) (hb hby d3_62) rfl rfl ?_
          refine own_icmp_lt (pt := 73) (pf := 66) X0 hx (hb hby d3_63) rfl (by decide) rfl (fun hc63 => ?_) (fun hc63 => ?_)
          · skip
            refine own_iloadN (pc' := 74) X0 hx (hb hby d3_73) rfl rfl ?_
            refine own_iloadN (pc' := 75) X0 hx (hb hby d3_74) rfl rfl ?_
            refine own_iconst (pc' := 76) X0 hx (1 : Int32) (hb hby d3_75) rfl rfl ?_
            refine own_iushr (pc' := 77) X0 hx (hb hby d3_76) rfl ?_
            refine own_isub (pc' := 78) X0 hx (hb hby d3_77) rfl ?_
            refine own_retI X0 hx hlk hret (hb hby d3_78) (by decide) (by decide) ?_
            refine ⟨((19 : Int32) - ((v6.toUInt32 >>> ((1 : Int32) &&& 31).toUInt32).toInt32)), rfl, ?_, rfl, e0⟩
            unfold own_lz
            subst_vars
            simp only [hc1, hc22, hc37, hc51, hc63, if_true, if_false, ite_true, ite_false]
            try rfl
          · skip
            refine own_iinc (pc' := 69) (l' := #[.val (.int v6), .val (.int (17 : Int32))]) X0 hx (hb hby d3_66) rfl (by decide) rfl rfl ?_
            refine own_iloadN (pc' := 70) X0 hx (hb hby d3_69) rfl rfl ?_
            refine own_iconst (pc' := 71) X0 hx (2 : Int32) (hb hby d3_70) rfl rfl ?_
            refine own_iushr (pc' := 72) X0 hx (hb hby d3_71) rfl ?_
            obtain ⟨v7, hv7⟩ : ∃ z : Int32, z = ((v6.toUInt32 >>> ((2 : Int32) &&& 31).toUInt32).toInt32) := ⟨_, rfl⟩
            refine own_istoreN (pc' := 73) (l' := #[.val (.int v7), .val (.int (17 : Int32))]) X0 hx (hb hby d3_72) hv7 rfl rfl ?_
            refine own_iloadN (pc' := 74) X0 hx (hb hby d3_73) rfl rfl ?_
            refine own_iloadN (pc' := 75) X0 hx (hb hby d3_74) rfl rfl ?_
            refine own_iconst (pc' := 76) X0 hx (1 : Int32) (hb hby d3_75) rfl rfl ?_
            refine own_iushr (pc' := 77) X0 hx (hb hby d3_76) rfl ?_
            refine own_isub (pc' := 78) X0 hx (hb hby d3_77) rfl ?_
            refine own_retI X0 hx hlk hret (hb hby d3_78) (by decide) (by decide) ?_
            refine ⟨((17 : Int32) - ((v7.toUInt32 >>> ((1 : Int32) &&& 31).toUInt32).toInt32)), rfl, ?_, rfl, e0⟩
            unfold own_lz
            subst_vars
            simp only [hc1, hc22, hc37, hc51, hc63, if_true, if_false, ite_true, ite_false]
            try rfl
    · skip
      refine own_iinc (pc' := 28) (l' := #[.val (.int c1), .val (.int (15 : Int32))]) X0 hx (hb hby d3_25) rfl (by decide) rfl rfl ?_
      refine own_iloadN (pc' := 29) X0 hx (hb hby d3_28) rfl rfl ?_
      refine own_bipush (pc' := 31) X0 hx (16 : Int32) (hb hby d3_29) rfl rfl ?_
      refine own_iushr (pc' := 32) X0 hx (hb hby d3_31) rfl ?_
      obtain ⟨v8, hv8⟩ : ∃ z : Int32, z = ((c1.toUInt32 >>> ((16 : Int32) &&& 31).toUInt32).toInt32) := ⟨_, rfl⟩
      refine own_istoreN (pc' := 33) (l' := #[.val (.int v8), .val (.int (15 : Int32))]) X0 hx (hb hby d3_32) hv8 rfl rfl ?_
      refine own_iloadN (pc' := 34) X0 hx (hb hby d3_33) rfl rfl ?_
      refine own_sipush (pc' := 37) X0 hx (256 : Int32) (hb hby d3_34) rfl rfl ?_
      refine own_icmp_lt (pt := 48) (pf := 40) X0 hx (hb hby d3_37) rfl (by decide) rfl (fun hc37 => ?_) (fun hc37 => ?_)
      · skip
        refine own_iloadN (pc' := 49) X0 hx (hb hby d3_48) rfl rfl ?_
        refine own_bipush (pc' := 51) X0 hx (16 : Int32) (hb hby d3_49) rfl rfl ?_
        refine own_icmp_lt (pt := 61) (pf := 54) X0 hx (hb hby d3_51) rfl (by decide) rfl (fun hc51 => ?_) (fun hc51 => ?_)
        · skip
          refine own_iloadN (pc' := 62) X0 hx (hb hby d3_61) rfl rfl ?_
          refine own_iconst (pc' := 63) X0 hx (4 : Int32) (hb hby d3_62) rfl rfl ?_
          refine own_icmp_lt (pt := 73) (pf := 66) X0 hx (hb hby d3_63) rfl (by decide) rfl (fun hc63 => ?_) (fun hc63 => ?_)
          · skip
            refine own_iloadN (pc' := 74) X0 hx (hb hby d3_73) rfl rfl ?_
            refine own_iloadN (pc' := 75) X0 hx (hb hby d3_74) rfl rfl ?_
            refine own_iconst (pc' := 76) X0 hx (1 : Int32) (hb hby d3_75) rfl rfl ?_
            refine own_iushr (pc' := 77) X0 hx (hb hby d3_76) rfl ?_
            refine own_isub (pc' := 78) X0 hx (hb hby d3_77) rfl ?_
            refine own_retI X0 hx hlk hret (hb hby d3_78) (by decide) (by decide) ?_
            refine ⟨((15 : Int32) - ((v8.toUInt32 >>> ((1 : Int32) &&& 31).toUInt32).toInt32)), rfl, ?_, rfl, e0⟩
            unfold own_lz
            subst_vars
            simp only [hc1, hc22, hc37, hc51, hc63, if_true, if_false, ite_true, ite_false]
            try rfl
          · skip
            refine own_iinc (pc' := 69) (l' := #[.val (.int v8), .val (.int (13 : Int32))]) X0 hx (hb hby d3_66) rfl (by decide) rfl rfl ?_
            refine own_iloadN (pc' := 70) X0 hx (hb hby d3_69) rfl rfl ?_
            refine own_iconst (pc' := 71) X0 hx (2 : Int32) (hb hby d3_70) rfl rfl ?_
            refine own_iushr (pc' := 72) X0 hx (hb hby d3_71) rfl ?_
            obtain ⟨v9, hv9⟩ : ∃ z : Int32, z = ((v8.toUInt32 >>> ((2 : Int32) &&& 31).toUInt32).toInt32) := ⟨_, rfl⟩
            refine own_istoreN (pc' := 73) (l' := #[.val (.int v9), .val (.int (13 : Int32))]) X0 hx (hb hby d3_72) hv9 rfl rfl ?_
            refine own_iloadN (pc' := 74) X0 hx (hb hby d3_73) rfl rfl ?_
            refine own_iloadN (pc' := 75) X0 hx (hb hby d3_74) rfl rfl ?_
            refine own_iconst (pc' := 76) X0 hx (1 : Int32) (hb hby d3_75) rfl rfl ?_
            refine own_iushr (pc' := 77) X0 hx (hb hby d3_76) rfl ?_
            refine own_isub (pc' := 78) X0 hx (hb hby d3_77) rfl ?_
            refine own_retI X0 hx hlk hret (hb hby d3_78) (by decide) (by decide) ?_
            refine ⟨((13 : Int32) - ((v9.toUInt32 >>> ((1 : Int32) &&& 31).toUInt32).toInt32)), rfl, ?_, rfl, e0⟩
            unfold own_lz
            subst_vars
            simp only [hc1, hc22, hc37, hc51, hc63, if_true, if_false, ite_true, ite_false]
            try rfl
        · skip
          refine own_iinc (pc' := 57) (l' := #[.val (.int v8), .val (.int (11 : Int32))]) X0 hx (hb hby d3_54) rfl (by decide) rfl rfl ?_
          refine own_iloadN (pc' := 58) X0 hx (hb hby d3_57) rfl rfl ?_
          refine own_iconst (pc' := 59) X0 hx (4 : Int32) (hb hby d3_58) rfl rfl ?_
          refine own_iushr (pc' := 60) X0 hx (hb hby d3_59) rfl ?_
          obtain ⟨v10, hv10⟩ : ∃ z : Int32, z = ((v8.toUInt32 >>> ((4 : Int32) &&& 31).toUInt32).toInt32) := ⟨_, rfl⟩
          refine own_istoreN (pc' := 61) (l' := #[.val (.int v10), .val (.int (11 : Int32))]) X0 hx (hb hby d3_60) hv10 rfl rfl ?_
          refine own_iloadN (pc' := 62) X0 hx (hb hby d3_61) rfl rfl ?_
          refine own_iconst (pc' := 63) X0 hx (4 : Int32) (hb hby d3_62) rfl rfl ?_
          refine own_icmp_lt (pt := 73) (pf := 66) X0 hx (hb hby d3_63) rfl (by decide) rfl (fun hc63 => ?_) (fun hc63 => ?_)
          · skip
            refine own_iloadN (pc' := 74) X0 hx (hb hby d3_73) rfl rfl ?_
            refine own_iloadN (pc' := 75) X0 hx (hb hby d3_74) rfl rfl ?_
            refine own_iconst (pc' := 76) X0 hx (1 : Int32) (hb hby d3_75) rfl rfl ?_
            refine own_iushr (pc' := 77) X0 hx (hb hby d3_76) rfl ?_
            refine own_isub (pc' := 78) X0 hx (hb hby d3_77) rfl ?_
            refine own_retI X0 hx hlk hret (hb hby d3_78) (by decide) (by decide) ?_
            refine ⟨((11 : Int32) - ((v10.toUInt32 >>> ((1 : Int32) &&& 31).toUInt32).toInt32)), rfl, ?_, rfl, e0⟩
            unfold own_lz
            subst_vars
            simp only [hc1, hc22, hc37, hc51, hc63, if_true, if_false, ite_true, ite_false]
            try rfl
          · skip
            refine own_iinc (pc' := 69) (l' := #[.val (.int v10), .val (.int (9 : Int32))]) X0 hx (hb hby d3_66) rfl (by decide) rfl rfl ?_
            refine own_iloadN (pc' := 70) X0 hx (hb hby d3_69) rfl rfl ?_
            refine own_iconst (pc' := 71) X0 hx (2 : Int32) (hb hby d3_70) rfl rfl ?_
            refine own_iushr (pc' := 72) X0 hx (hb hby d3_71) rfl ?_
            obtain ⟨v11, hv11⟩ : ∃ z : Int32, z = ((v10.toUInt32 >>> ((2 : Int32) &&& 31).toUInt32).toInt32) := ⟨_, rfl⟩
            refine own_istoreN (pc' := 73) (l' := #[.val (.int v11), .val (.int (9 : Int32))]) X0 hx (hb hby d3_72) hv11 rfl rfl ?_
            refine own_iloadN (pc' := 74) X0 hx (hb hby d3_73) rfl rfl ?_
            refine own_iloadN (pc' := 75) X0 hx (hb hby d3_74) rfl rfl ?_
            refine own_iconst (pc' := 76) X0 hx (1 : Int32) (hb hby d3_75) rfl rfl ?_
            refine own_iushr (pc' := 77) X0 hx (hb hby d3_76) rfl ?_
            refine own_isub (pc' := 78) X0 hx (hb hby d3_77) rfl ?_
            refine own_retI X0 hx hlk hret (hb hby d3_78) (by decide) (by decide) ?_
            refine ⟨((9 : Int32) - ((v11.toUInt32 >>> ((1 : Int32) &&& 31).toUInt32).toInt32)), rfl, ?_, rfl, e0⟩
            unfold own_lz
            subst_vars
            simp only [hc1, hc22, hc37, hc51, hc63, if_true, if_false, ite_true, ite_false]
            try rfl
      · skip
        refine own_iinc (pc' := 43) (l' := #[.val (.int v8), .val (.int (7 : Int32))]) X0 hx (hb hby d3_40) rfl (by decide) rfl rfl ?_
        refine own_iloadN (pc' := 44) X0 hx (hb hby d3_43) rfl rfl ?_
        refine own_bipush (pc' := 46) X0 hx (8 : Int32) (hb hby d3_44) rfl rfl ?_
        refine own_iushr (pc' := 47) X0 hx (hb hby d3_46) rfl ?_
        obtain ⟨v12, hv12⟩ : ∃ z : Int32, z = ((v8.toUInt32 >>> ((8 : Int32) &&& 31).toUInt32).toInt32) := ⟨_, rfl⟩
        refine own_istoreN (pc' := 48) (l' := #[.val (.int v12), .val (.int (7 : Int32))]) X0 hx (hb hby d3_47) hv12 rfl rfl ?_
        refine own_iloadN (pc' := 49) X0 hx (hb hby d3_48) rfl rfl ?_
        refine own_bipush (pc' := 51) X0 hx (16 : Int32) (hb hby d3_49) rfl rfl ?_
        refine own_icmp_lt (pt := 61) (pf := 54) X0 hx (hb hby d3_51) rfl (by decide) rfl (fun hc51 => ?_) (fun hc51 => ?_)
        · skip
          refine own_iloadN (pc' := 62) X0 hx (hb hby d3_61) rfl rfl ?_
          refine own_iconst (pc' := 63) X0 hx (4 : Int32) (hb hby d3_62) rfl rfl ?_
          refine own_icmp_lt (pt := 73) (pf := 66) X0 hx (hb hby d3_63) rfl (by decide) rfl (fun hc63 => ?_) (fun hc63 => ?_)
          · skip
            refine own_iloadN (pc' := 74) X0 hx (hb hby d3_73) rfl rfl ?_
            refine own_iloadN (pc' := 75) X0 hx (hb hby d3_74) rfl rfl ?_
            refine own_iconst (pc' := 76) X0 hx (1 : Int32) (hb hby d3_75) rfl rfl ?_
            refine own_iushr (pc' := 77) X0 hx (hb hby d3_76) rfl ?_
            refine own_isub (pc' := 78) X0 hx (hb hby d3_77) rfl ?_
            refine own_retI X0 hx hlk hret (hb hby d3_78) (by decide) (by decide) ?_
            refine ⟨((7 : Int32) - ((v12.toUInt32 >>> ((1 : Int32) &&& 31).toUInt32).toInt32)), rfl, ?_, rfl, e0⟩
            unfold own_lz
            subst_vars
            simp only [hc1, hc22, hc37, hc51, hc63, if_true, if_false, ite_true, ite_false]
            try rfl
          · skip
            refine own_iinc (pc' := 69) (l' := #[.val (.int v12), .val (.int (5 : Int32))]) X0 hx (hb hby d3_66) rfl (by decide) rfl rfl ?_
            refine own_iloadN (pc' := 70) X0 hx (hb hby d3_69) rfl rfl ?_
            refine own_iconst (pc' := 71) X0 hx (2 : Int32) (hb hby d3_70) rfl rfl ?_
            refine own_iushr (pc' := 72) X0 hx (hb hby d3_71) rfl ?_
            obtain ⟨v13, hv13⟩ : ∃ z : Int32, z = ((v12.toUInt32 >>> ((2 : Int32) &&& 31).toUInt32).toInt32) := ⟨_, rfl⟩
            refine own_istoreN (pc' := 73) (l' := #[.val (.int v13), .val (.int (5 : Int32))]) X0 hx (hb hby d3_72) hv13 rfl rfl ?_
            refine own_iloadN (pc' := 74) X0 hx (hb hby d3_73) rfl rfl ?_
            refine own_iloadN (pc' := 75) X0 hx (hb hby d3_74) rfl rfl ?_
            refine own_iconst (pc' := 76) X0 hx (1 : Int32) (hb hby d3_75) rfl rfl ?_
            refine own_iushr (pc' := 77) X0 hx (hb hby d3_76) rfl ?_
            refine own_isub (pc' := 78) X0 hx (hb hby d3_77) rfl ?_
            refine own_retI X0 hx hlk hret (hb hby d3_78) (by decide) (by decide) ?_
            refine ⟨((5 : Int32) - ((v13.toUInt32 >>> ((1 : Int32) &&& 31).toUInt32).toInt32)), rfl, ?_, rfl, e0⟩
            unfold own_lz
            subst_vars
            simp only [hc1, hc22, hc37, hc51, hc63, if_true, if_false, ite_true, ite_false]
            try rfl
        · skip
          refine own_iinc (pc' := 57) (l' := #[.val (.int v12), .val (.int (3 : Int32))]) X0 hx (hb hby d3_54) rfl (by decide) rfl rfl ?_
          refine own_iloadN (pc' := 58) X0 hx (hb hby d3_57) rfl rfl ?_
          refine own_iconst (pc' := 59) X0 hx (4 : Int32) (hb hby d3_58) rfl rfl ?_
          refine own_iushr (pc' := 60) X0 hx (hb hby d3_59) rfl ?_
          obtain ⟨v14, hv14⟩ : ∃ z : Int32, z = ((v12.toUInt32 >>> ((4 : Int32) &&& 31).toUInt32).toInt32) := ⟨_, rfl⟩
          refine own_istoreN (pc' := 61) (l' := #[.val (.int v14), .val (.int (3 : Int32))]) X0 hx (hb hby d3_60) hv14 rfl rfl ?_
          refine own_iloadN (pc' := 62) X0 hx (hb hby d3_61) rfl rfl ?_
          refine own_iconst (pc' := 63) X0 hx (4 : Int32) (hb hby d3_62) rfl rfl ?_
          refine own_icmp_lt (pt := 73) (pf := 66) X0 hx (hb hby d3_63) rfl (by decide) rfl (fun hc63 => ?_) (fun hc63 => ?_)
          · skip
            refine own_iloadN (pc' := 74) X0 hx (hb hby d3_73) rfl rfl ?_
            refine own_iloadN (pc' := 75) X0 hx (hb hby d3_74) rfl rfl ?_
            refine own_iconst (pc' := 76) X0 hx (1 : Int32) (hb hby d3_75) rfl rfl ?_
            refine own_iushr (pc' := 77) X0 hx (hb hby d3_76) rfl ?_
            refine own_isub (pc' := 78) X0 hx (hb hby d3_77) rfl ?_
            refine own_retI X0 hx hlk hret (hb hby d3_78) (by decide) (by decide) ?_
            refine ⟨((3 : Int32) - ((v14.toUInt32 >>> ((1 : Int32) &&& 31).toUInt32).toInt32)), rfl, ?_, rfl, e0⟩
            unfold own_lz
            subst_vars
            simp only [hc1, hc22, hc37, hc51, hc63, if_true, if_false, ite_true, ite_false]
            try rfl
          · skip
            refine own_iinc (pc' := 69) (l' := #[.val (.int v14), .val (.int (1 : Int32))]) X0 hx (hb hby d3_66) rfl (by decide) rfl rfl ?_
            refine own_iloadN (pc' := 70) X0 hx (hb hby d3_69) rfl rfl ?_
            refine own_iconst (pc' := 71) X0 hx (2 : Int32) (hb hby d3_70) rfl rfl ?_
            refine own_iushr (pc' := 72) X0 hx (hb hby d3_71) rfl ?_
            obtain ⟨v15, hv15⟩ : ∃ z : Int32, z = ((v14.toUInt32 >>> ((2 : Int32) &&& 31).toUInt32).toInt32) := ⟨_, rfl⟩
            refine own_istoreN (pc' := 73) (l' := #[.val (.int v15), .val (.int (1 : Int32))]) X0 hx (hb hby d3_72) hv15 rfl rfl ?_
            refine own_iloadN (pc' := 74) X0 hx (hb hby d3_73) rfl rfl ?_
            refine own_iloadN (pc' := 75) X0 hx (hb hby d3_74) rfl rfl ?_
            refine own_iconst (pc' := 76) X0 hx (1 : Int32) (hb hby d3_75) rfl rfl ?_
            refine own_iushr (pc' := 77) X0 hx (hb hby d3_76) rfl ?_
            refine own_isub (pc' := 78) X0 hx (hb hby d3_77) rfl ?_
            refine own_retI X0 hx hlk hret (hb hby d3_78) (by decide) (by decide) ?_
            refine ⟨((1 : Int32) - ((v15.toUInt32 >>> ((1 : Int32) &&& 31).toUInt32).toInt32)), rfl, ?_, rfl, e0⟩
            unfold own_lz
            subst_vars
            simp only [hc1, hc22, hc37, hc51, hc63, if_true, if_false, ite_true, ite_false]
            try rfl
  · skip
    refine own_iloadN (pc' := 5) X0 hx (hb hby d3_4) rfl rfl ?_
    refine own_if_ne (pt := 13) (pf := 8) X0 hx (hb hby d3_5) rfl (by decide) rfl (fun hc5 => ?_) (fun hc5 => ?_)
    · skip
      refine own_iconst (pc' := 14) X0 hx (0 : Int32) (hb hby d3_13) rfl rfl ?_
      refine own_retI X0 hx hlk hret (hb hby d3_14) (by decide) (by decide) ?_
      refine ⟨(0 : Int32), rfl, ?_, rfl, e0⟩
      unfold own_lz
      rw [if_neg hc1, if_neg hc5]
    · skip
      refine own_bipush (pc' := 10) X0 hx (32 : Int32) (hb hby d3_8) rfl rfl ?_
      refine own_goto (pc' := 14) X0 hx (hb hby d3_10) (by decide) rfl ?_
      refine own_retI X0 hx hlk hret (hb hby d3_14) (by decide) (by decide) ?_
      refine ⟨(32 : Int32), rfl, ?_, rfl, e0⟩
      unfold own_lz
      rw [if_neg hc1, if_pos hc5]
theorem d1_0 : decode prog_36_method_1_code 0 = .ok (.aload_n 0, 1) := by decide +kernel
theorem d1_1 : decode prog_36_method_1_code 1 = .ok (.invokespecial 1, 3) := by decide +kernel
theorem d1_4 : decode prog_36_method_1_code 4 = .ok (.iload_n 3, 1) := by decide +kernel
theorem d1_5 : decode prog_36_method_1_code 5 = .ok (.iload_n 2, 1) := by decide +kernel
theorem d1_6 : decode prog_36_method_1_code 6 = .ok (.isub, 1) := by decide +kernel
theorem d1_7 : decode prog_36_method_1_code 7 = .ok (.istore 5, 2) := by decide +kernel
theorem d1_9 : decode prog_36_method_1_code 9 = .ok (.aload_n 0, 1) := by decide +kernel
theorem d1_10 : decode prog_36_method_1_code 10 = .ok (.iload 5, 2) := by decide +kernel
theorem d1_12 : decode prog_36_method_1_code 12 = .ok (.ifCond .ne 7, 3) := by decide +kernel
theorem d1_15 : decode prog_36_method_1_code 15 = .ok (.iconst 0, 1) := by decide +kernel
theorem d1_16 : decode prog_36_method_1_code 16 = .ok (.goto 13, 3) := by decide +kernel
theorem d1_19 : decode prog_36_method_1_code 19 = .ok (.bipush 32, 2) := by decide +kernel
theorem d1_21 : decode prog_36_method_1_code 21 = .ok (.iload 4, 2) := by decide +kernel
theorem d1_23 : decode prog_36_method_1_code 23 = .ok (.iconst 1, 1) := by decide +kernel
theorem d1_24 : decode prog_36_method_1_code 24 = .ok (.isub, 1) := by decide +kernel
theorem d1_25 : decode prog_36_method_1_code 25 = .ok (.invokestatic 9, 3) := by decide +kernel
theorem d1_28 : decode prog_36_method_1_code 28 = .ok (.isub, 1) := by decide +kernel
theorem d1_29 : decode prog_36_method_1_code 29 = .ok (.putfield 13, 3) := by decide +kernel
theorem d1_32 : decode prog_36_method_1_code 32 = .ok (.ldc2_w 19, 3) := by decide +kernel
theorem d1_35 : decode prog_36_method_1_code 35 = .ok (.bipush 64, 2) := by decide +kernel
theorem d1_37 : decode prog_36_method_1_code 37 = .ok (.iload_n 2, 1) := by decide +kernel
theorem d1_38 : decode prog_36_method_1_code 38 = .ok (.isub, 1) := by decide +kernel
theorem d1_39 : decode prog_36_method_1_code 39 = .ok (.lushr, 1) := by decide +kernel
theorem d1_40 : decode prog_36_method_1_code 40 = .ok (.lstore 6, 2) := by decide +kernel
theorem d1_42 : decode prog_36_method_1_code 42 = .ok (.lconst 0, 1) := by decide +kernel
theorem d1_43 : decode prog_36_method_1_code 43 = .ok (.lstore 8, 2) := by decide +kernel
theorem d1_45 : decode prog_36_method_1_code 45 = .ok (.iconst 0, 1) := by decide +kernel
theorem d1_46 : decode prog_36_method_1_code 46 = .ok (.istore 10, 2) := by decide +kernel
theorem d1_48 : decode prog_36_method_1_code 48 = .ok (.iload 10, 2) := by decide +kernel
theorem d1_50 : decode prog_36_method_1_code 50 = .ok (.iload 4, 2) := by decide +kernel
theorem d1_52 : decode prog_36_method_1_code 52 = .ok (.if_icmp .ge 21, 3) := by decide +kernel
theorem d1_55 : decode prog_36_method_1_code 55 = .ok (.lload 8, 2) := by decide +kernel
theorem d1_57 : decode prog_36_method_1_code 57 = .ok (.lload 6, 2) := by decide +kernel
theorem d1_59 : decode prog_36_method_1_code 59 = .ok (.iload 10, 2) := by decide +kernel
theorem d1_61 : decode prog_36_method_1_code 61 = .ok (.iload_n 3, 1) := by decide +kernel
theorem d1_62 : decode prog_36_method_1_code 62 = .ok (.imul, 1) := by decide +kernel
theorem d1_63 : decode prog_36_method_1_code 63 = .ok (.lshl, 1) := by decide +kernel
theorem d1_64 : decode prog_36_method_1_code 64 = .ok (.lor, 1) := by decide +kernel
theorem d1_65 : decode prog_36_method_1_code 65 = .ok (.lstore 8, 2) := by decide +kernel
theorem d1_67 : decode prog_36_method_1_code 67 = .ok (.iinc 10 1, 3) := by decide +kernel
theorem d1_70 : decode prog_36_method_1_code 70 = .ok (.goto (-22), 3) := by decide +kernel
theorem d1_73 : decode prog_36_method_1_code 73 = .ok (.aload_n 0, 1) := by decide +kernel
theorem d1_74 : decode prog_36_method_1_code 74 = .ok (.iload_n 1, 1) := by decide +kernel
theorem d1_75 : decode prog_36_method_1_code 75 = .ok (.putfield 23, 3) := by decide +kernel
theorem d1_78 : decode prog_36_method_1_code 78 = .ok (.aload_n 0, 1) := by decide +kernel
theorem d1_79 : decode prog_36_method_1_code 79 = .ok (.lload 8, 2) := by decide +kernel
theorem d1_81 : decode prog_36_method_1_code 81 = .ok (.putfield 26, 3) := by decide +kernel
theorem d1_84 : decode prog_36_method_1_code 84 = .ok (.aload_n 0, 1) := by decide +kernel
theorem d1_85 : decode prog_36_method_1_code 85 = .ok (.lload 8, 2) := by decide +kernel
theorem d1_87 : decode prog_36_method_1_code 87 = .ok (.iload_n 1, 1) := by decide +kernel
theorem d1_88 : decode prog_36_method_1_code 88 = .ok (.lshl, 1) := by decide +kernel
theorem d1_89 : decode prog_36_method_1_code 89 = .ok (.putfield 30, 3) := by decide +kernel
theorem d1_92 : decode prog_36_method_1_code 92 = .ok (.aload_n 0, 1) := by decide +kernel
theorem d1_93 : decode prog_36_method_1_code 93 = .ok (.iload 4, 2) := by decide +kernel
theorem d1_95 : decode prog_36_method_1_code 95 = .ok (.iload_n 2, 1) := by decide +kernel
theorem d1_96 : decode prog_36_method_1_code 96 = .ok (.imul, 1) := by decide +kernel
theorem d1_97 : decode prog_36_method_1_code 97 = .ok (.putfield 33, 3) := by decide +kernel
theorem d1_100 : decode prog_36_method_1_code 100 = .ok (.aload_n 0, 1) := by decide +kernel
theorem d1_101 : decode prog_36_method_1_code 101 = .ok (.ldc2_w 19, 3) := by decide +kernel
theorem d1_104 : decode prog_36_method_1_code 104 = .ok (.bipush 64, 2) := by decide +kernel
theorem d1_106 : decode prog_36_method_1_code 106 = .ok (.aload_n 0, 1) := by decide +kernel
theorem d1_107 : decode prog_36_method_1_code 107 = .ok (.getfield 33, 3) := by decide +kernel
theorem d1_110 : decode prog_36_method_1_code 110 = .ok (.isub, 1) := by decide +kernel
theorem d1_111 : decode prog_36_method_1_code 111 = .ok (.lushr, 1) := by decide +kernel
theorem d1_112 : decode prog_36_method_1_code 112 = .ok (.putfield 36, 3) := by decide +kernel
theorem d1_115 : decode prog_36_method_1_code 115 = .ok (.iconst 5, 1) := by decide +kernel
theorem d1_116 : decode prog_36_method_1_code 116 = .ok (.newarray .long, 2) := by decide +kernel
theorem d1_118 : decode prog_36_method_1_code 118 = .ok (.astore 10, 2) := by decide +kernel
theorem d1_120 : decode prog_36_method_1_code 120 = .ok (.iconst 0, 1) := by decide +kernel
theorem d1_121 : decode prog_36_method_1_code 121 = .ok (.istore 11, 2) := by decide +kernel
theorem d1_123 : decode prog_36_method_1_code 123 = .ok (.iload 11, 2) := by decide +kernel
theorem d1_125 : decode prog_36_method_1_code 125 = .ok (.aload_n 0, 1) := by decide +kernel
theorem d1_126 : decode prog_36_method_1_code 126 = .ok (.getfield 13, 3) := by decide +kernel
theorem d1_129 : decode prog_36_method_1_code 129 = .ok (.if_icmp .ge 67, 3) := by decide +kernel
theorem d1_132 : decode prog_36_method_1_code 132 = .ok (.iconst 0, 1) := by decide +kernel
theorem d1_133 : decode prog_36_method_1_code 133 = .ok (.istore 12, 2) := by decide +kernel
theorem d1_135 : decode prog_36_method_1_code 135 = .ok (.iload 12, 2) := by decide +kernel
theorem d1_137 : decode prog_36_method_1_code 137 = .ok (.iload 4, 2) := by decide +kernel
theorem d1_139 : decode prog_36_method_1_code 139 = .ok (.if_icmp .ge 51, 3) := by decide +kernel
theorem d1_142 : decode prog_36_method_1_code 142 = .ok (.iload 12, 2) := by decide +kernel
theorem d1_144 : decode prog_36_method_1_code 144 = .ok (.iload 11, 2) := by decide +kernel
theorem d1_146 : decode prog_36_method_1_code 146 = .ok (.iushr, 1) := by decide +kernel
theorem d1_147 : decode prog_36_method_1_code 147 = .ok (.iconst 1, 1) := by decide +kernel
theorem d1_148 : decode prog_36_method_1_code 148 = .ok (.iand, 1) := by decide +kernel
theorem d1_149 : decode prog_36_method_1_code 149 = .ok (.ifCond .eq 35, 3) := by decide +kernel
theorem d1_152 : decode prog_36_method_1_code 152 = .ok (.iload 12, 2) := by decide +kernel
theorem d1_154 : decode prog_36_method_1_code 154 = .ok (.iload_n 3, 1) := by decide +kernel
theorem d1_155 : decode prog_36_method_1_code 155 = .ok (.imul, 1) := by decide +kernel
theorem d1_156 : decode prog_36_method_1_code 156 = .ok (.iload 12, 2) := by decide +kernel
theorem d1_158 : decode prog_36_method_1_code 158 = .ok (.iconst 1, 1) := by decide +kernel
theorem d1_159 : decode prog_36_method_1_code 159 = .ok (.iload 11, 2) := by decide +kernel
theorem d1_161 : decode prog_36_method_1_code 161 = .ok (.ishl, 1) := by decide +kernel
theorem d1_162 : decode prog_36_method_1_code 162 = .ok (.iconst 1, 1) := by decide +kernel
theorem d1_163 : decode prog_36_method_1_code 163 = .ok (.isub, 1) := by decide +kernel
theorem d1_164 : decode prog_36_method_1_code 164 = .ok (.iand, 1) := by decide +kernel
theorem d1_165 : decode prog_36_method_1_code 165 = .ok (.iload 5, 2) := by decide +kernel
theorem d1_167 : decode prog_36_method_1_code 167 = .ok (.imul, 1) := by decide +kernel
theorem d1_168 : decode prog_36_method_1_code 168 = .ok (.isub, 1) := by decide +kernel
theorem d1_169 : decode prog_36_method_1_code 169 = .ok (.istore 13, 2) := by decide +kernel
theorem d1_171 : decode prog_36_method_1_code 171 = .ok (.aload 10, 2) := by decide +kernel
theorem d1_173 : decode prog_36_method_1_code 173 = .ok (.iload 11, 2) := by decide +kernel
theorem d1_175 : decode prog_36_method_1_code 175 = .ok (.dup2, 1) := by decide +kernel
theorem d1_176 : decode prog_36_method_1_code 176 = .ok (.laload, 1) := by decide +kernel
theorem d1_177 : decode prog_36_method_1_code 177 = .ok (.lload 6, 2) := by decide +kernel
theorem d1_179 : decode prog_36_method_1_code 179 = .ok (.iload 13, 2) := by decide +kernel
theorem d1_181 : decode prog_36_method_1_code 181 = .ok (.lshl, 1) := by decide +kernel
theorem d1_182 : decode prog_36_method_1_code 182 = .ok (.lor, 1) := by decide +kernel
theorem d1_183 : decode prog_36_method_1_code 183 = .ok (.lastore, 1) := by decide +kernel
theorem d1_184 : decode prog_36_method_1_code 184 = .ok (.iinc 12 1, 3) := by decide +kernel
theorem d1_187 : decode prog_36_method_1_code 187 = .ok (.goto (-52), 3) := by decide +kernel
theorem d1_190 : decode prog_36_method_1_code 190 = .ok (.iinc 11 1, 3) := by decide +kernel
theorem d1_193 : decode prog_36_method_1_code 193 = .ok (.goto (-70), 3) := by decide +kernel
theorem d1_196 : decode prog_36_method_1_code 196 = .ok (.aload_n 0, 1) := by decide +kernel
theorem d1_197 : decode prog_36_method_1_code 197 = .ok (.aload 10, 2) := by decide +kernel
theorem d1_199 : decode prog_36_method_1_code 199 = .ok (.iconst 0, 1) := by decide +kernel
theorem d1_200 : decode prog_36_method_1_code 200 = .ok (.laload, 1) := by decide +kernel
theorem d1_201 : decode prog_36_method_1_code 201 = .ok (.putfield 39, 3) := by decide +kernel
theorem d1_204 : decode prog_36_method_1_code 204 = .ok (.aload_n 0, 1) := by decide +kernel
theorem d1_205 : decode prog_36_method_1_code 205 = .ok (.aload 10, 2) := by decide +kernel
theorem d1_207 : decode prog_36_method_1_code 207 = .ok (.iconst 1, 1) := by decide +kernel
theorem d1_208 : decode prog_36_method_1_code 208 = .ok (.laload, 1) := by decide +kernel
theorem d1_209 : decode prog_36_method_1_code 209 = .ok (.putfield 42, 3) := by decide +kernel
theorem d1_212 : decode prog_36_method_1_code 212 = .ok (.aload_n 0, 1) := by decide +kernel
theorem d1_213 : decode prog_36_method_1_code 213 = .ok (.aload 10, 2) := by decide +kernel
theorem d1_215 : decode prog_36_method_1_code 215 = .ok (.iconst 2, 1) := by decide +kernel
theorem d1_216 : decode prog_36_method_1_code 216 = .ok (.laload, 1) := by decide +kernel
theorem d1_217 : decode prog_36_method_1_code 217 = .ok (.putfield 45, 3) := by decide +kernel
theorem d1_220 : decode prog_36_method_1_code 220 = .ok (.aload_n 0, 1) := by decide +kernel
theorem d1_221 : decode prog_36_method_1_code 221 = .ok (.aload 10, 2) := by decide +kernel
theorem d1_223 : decode prog_36_method_1_code 223 = .ok (.iconst 3, 1) := by decide +kernel
theorem d1_224 : decode prog_36_method_1_code 224 = .ok (.laload, 1) := by decide +kernel
theorem d1_225 : decode prog_36_method_1_code 225 = .ok (.putfield 48, 3) := by decide +kernel
theorem d1_228 : decode prog_36_method_1_code 228 = .ok (.aload_n 0, 1) := by decide +kernel
theorem d1_229 : decode prog_36_method_1_code 229 = .ok (.aload 10, 2) := by decide +kernel
theorem d1_231 : decode prog_36_method_1_code 231 = .ok (.iconst 4, 1) := by decide +kernel
theorem d1_232 : decode prog_36_method_1_code 232 = .ok (.laload, 1) := by decide +kernel
theorem d1_233 : decode prog_36_method_1_code 233 = .ok (.putfield 51, 3) := by decide +kernel
theorem d1_236 : decode prog_36_method_1_code 236 = .ok (.aload_n 0, 1) := by decide +kernel
theorem d1_237 : decode prog_36_method_1_code 237 = .ok (.iload 5, 2) := by decide +kernel
theorem d1_239 : decode prog_36_method_1_code 239 = .ok (.putfield 54, 3) := by decide +kernel
theorem d1_242 : decode prog_36_method_1_code 242 = .ok (.aload_n 0, 1) := by decide +kernel
theorem d1_243 : decode prog_36_method_1_code 243 = .ok (.iload 5, 2) := by decide +kernel
theorem d1_245 : decode prog_36_method_1_code 245 = .ok (.iconst 1, 1) := by decide +kernel
theorem d1_246 : decode prog_36_method_1_code 246 = .ok (.ishl, 1) := by decide +kernel
theorem d1_247 : decode prog_36_method_1_code 247 = .ok (.putfield 57, 3) := by decide +kernel
theorem d1_250 : decode prog_36_method_1_code 250 = .ok (.aload_n 0, 1) := by decide +kernel
theorem d1_251 : decode prog_36_method_1_code 251 = .ok (.iload 5, 2) := by decide +kernel
theorem d1_253 : decode prog_36_method_1_code 253 = .ok (.iconst 2, 1) := by decide +kernel
theorem d1_254 : decode prog_36_method_1_code 254 = .ok (.ishl, 1) := by decide +kernel
theorem d1_255 : decode prog_36_method_1_code 255 = .ok (.putfield 60, 3) := by decide +kernel
theorem d1_258 : decode prog_36_method_1_code 258 = .ok (.aload_n 0, 1) := by decide +kernel
theorem d1_259 : decode prog_36_method_1_code 259 = .ok (.iload 5, 2) := by decide +kernel
theorem d1_261 : decode prog_36_method_1_code 261 = .ok (.iconst 3, 1) := by decide +kernel
theorem d1_262 : decode prog_36_method_1_code 262 = .ok (.ishl, 1) := by decide +kernel
theorem d1_263 : decode prog_36_method_1_code 263 = .ok (.putfield 63, 3) := by decide +kernel
theorem d1_266 : decode prog_36_method_1_code 266 = .ok (.aload_n 0, 1) := by decide +kernel
theorem d1_267 : decode prog_36_method_1_code 267 = .ok (.iload 5, 2) := by decide +kernel
theorem d1_269 : decode prog_36_method_1_code 269 = .ok (.iconst 4, 1) := by decide +kernel
theorem d1_270 : decode prog_36_method_1_code 270 = .ok (.ishl, 1) := by decide +kernel
theorem d1_271 : decode prog_36_method_1_code 271 = .ok (.putfield 66, 3) := by decide +kernel
theorem d1_274 : decode prog_36_method_1_code 274 = .ok (.aload_n 0, 1) := by decide +kernel
theorem d1_275 : decode prog_36_method_1_code 275 = .ok (.aload_n 0, 1) := by decide +kernel
theorem d1_276 : decode prog_36_method_1_code 276 = .ok (.getfield 39, 3) := by decide +kernel
theorem d1_279 : decode prog_36_method_1_code 279 = .ok (.aload_n 0, 1) := by decide +kernel
theorem d1_280 : decode prog_36_method_1_code 280 = .ok (.getfield 54, 3) := by decide +kernel
theorem d1_283 : decode prog_36_method_1_code 283 = .ok (.lushr, 1) := by decide +kernel
theorem d1_284 : decode prog_36_method_1_code 284 = .ok (.putfield 69, 3) := by decide +kernel
theorem d1_287 : decode prog_36_method_1_code 287 = .ok (.aload_n 0, 1) := by decide +kernel
theorem d1_288 : decode prog_36_method_1_code 288 = .ok (.aload_n 0, 1) := by decide +kernel
theorem d1_289 : decode prog_36_method_1_code 289 = .ok (.getfield 42, 3) := by decide +kernel
theorem d1_292 : decode prog_36_method_1_code 292 = .ok (.aload_n 0, 1) := by decide +kernel
theorem d1_293 : decode prog_36_method_1_code 293 = .ok (.getfield 57, 3) := by decide +kernel
theorem d1_296 : decode prog_36_method_1_code 296 = .ok (.lushr, 1) := by decide +kernel
theorem d1_297 : decode prog_36_method_1_code 297 = .ok (.putfield 72, 3) := by decide +kernel
theorem d1_300 : decode prog_36_method_1_code 300 = .ok (.aload_n 0, 1) := by decide +kernel
theorem d1_301 : decode prog_36_method_1_code 301 = .ok (.aload_n 0, 1) := by decide +kernel
theorem d1_302 : decode prog_36_method_1_code 302 = .ok (.getfield 45, 3) := by decide +kernel
theorem d1_305 : decode prog_36_method_1_code 305 = .ok (.aload_n 0, 1) := by decide +kernel
theorem d1_306 : decode prog_36_method_1_code 306 = .ok (.getfield 60, 3) := by decide +kernel
theorem d1_309 : decode prog_36_method_1_code 309 = .ok (.lushr, 1) := by decide +kernel
theorem d1_310 : decode prog_36_method_1_code 310 = .ok (.putfield 75, 3) := by decide +kernel
theorem d1_313 : decode prog_36_method_1_code 313 = .ok (.aload_n 0, 1) := by decide +kernel
theorem d1_314 : decode prog_36_method_1_code 314 = .ok (.aload_n 0, 1) := by decide +kernel
theorem d1_315 : decode prog_36_method_1_code 315 = .ok (.getfield 48, 3) := by decide +kernel
theorem d1_318 : decode prog_36_method_1_code 318 = .ok (.aload_n 0, 1) := by decide +kernel
theorem d1_319 : decode prog_36_method_1_code 319 = .ok (.getfield 63, 3) := by decide +kernel
theorem d1_322 : decode prog_36_method_1_code 322 = .ok (.lushr, 1) := by decide +kernel
theorem d1_323 : decode prog_36_method_1_code 323 = .ok (.putfield 78, 3) := by decide +kernel
theorem d1_326 : decode prog_36_method_1_code 326 = .ok (.aload_n 0, 1) := by decide +kernel
theorem d1_327 : decode prog_36_method_1_code 327 = .ok (.aload_n 0, 1) := by decide +kernel
theorem d1_328 : decode prog_36_method_1_code 328 = .ok (.getfield 51, 3) := by decide +kernel
theorem d1_331 : decode prog_36_method_1_code 331 = .ok (.aload_n 0, 1) := by decide +kernel
theorem d1_332 : decode prog_36_method_1_code 332 = .ok (.getfield 66, 3) := by decide +kernel
theorem d1_335 : decode prog_36_method_1_code 335 = .ok (.lushr, 1) := by decide +kernel
theorem d1_336 : decode prog_36_method_1_code 336 = .ok (.putfield 81, 3) := by decide +kernel
theorem d1_339 : decode prog_36_method_1_code 339 = .ok (.return_, 1) := by decide +kernel
theorem pn_1 : plainFor (⟨"com/example/nimble_bloom/nimblebloom/filter/WordMask", "<init>", "(IIII)V"⟩ : MethodName) = true := plainFor_of_name (by first | (simp [plainName, overriddenIn]; done) | decide +kernel)
set_option maxRecDepth 65536 in
set_option maxHeartbeats 4000000 in
theorem lpS {p : Program} {l : Launch} {e : Env} {s : State} {m : MethodId} {args : Array Value} {below : List Frame} {meth : Method} {c : Code} {Z : State} {a0 : Array Value} {Q : Option Value → Heap → List Loc → Prop} {kq nq : Nat} (hw : ∀ d ∈ tables_1, d.before a0 Z = true) (hx : p.tables.exec = Jvm.exec) (hby : c.code = prog_36_method_1_code) (hml : c.maxLocals = 14) (hown : s.vm.findClass "com/example/nimble_bloom/nimblebloom/filter/WordMask" = some m.cls) (hZ : Z.Warmed39 s.vm) {R : Room} {T0 : State} {L0 : List Loc} {cs ss : Nat} (X0 : Stand p l e R s m args below meth c T0 L0 cs ss) (a1 : Addr) (st w p' n' gp : Int32) (wb : Int64) (wn pn nn : Nat) (hW : w.toInt = (wn : Int)) (hP : p'.toInt = (pn : Int)) (hN : n'.toInt = (nn : Int)) (hw1 : 1 ≤ wn) (hwp : wn ≤ pn) (hsp : (nn - 1) * pn + wn ≤ 64) (hwb : ∀ x, own_bit wb x = decide (x < wn))
    (K : ∀ (v : Int64) (run : Int32), own_Up nn wn pn 0 (fun _ => True) v → own_WP p e below s Q kq nq (T0.setTop (mkF m 73 #[.val (.ref a1), .val (.int st), .val (.int w), .val (.int p'), .val (.int n'), .val (.int gp), .val (.long wb), .second, .val (.long v), .second, .val (.int run), .unset, .unset, .unset] []))) :
    ∀ (k : Nat) (run : Int32) (v : Int64) (t : Nat), nn - t = k → t ≤ nn → run.toInt = (t : Int) → own_Up t wn pn 0 (fun _ => True) v → own_WP p e below s Q kq nq (T0.setTop (mkF m 48 #[.val (.ref a1), .val (.int st), .val (.int w), .val (.int p'), .val (.int n'), .val (.int gp), .val (.long wb), .second, .val (.long v), .second, .val (.int run), .unset, .unset, .unset] [])) := by
  intro k
  induction k using Nat.strongRecOn with | _ k ih => ?_
  intro run v t hk htn hrun hU
  refine own_iload (pc' := 50) X0 hx (hb hby d1_48) rfl rfl ?_
  refine own_iload (pc' := 52) X0 hx (hb hby d1_50) rfl rfl ?_
  refine own_icmp_ge (pt := 73) (pf := 55) X0 hx (hb hby d1_52) rfl (by decide) rfl (fun hc52 => ?_) (fun hc52 => ?_)
  · skip
    have e : t = nn := by have q := own_ltN hrun hN; have q2 : ¬ t < nn := fun z => hc52 (q.mpr z); omega
    exact K v run (e ▸ hU)
  · skip
    refine own_lload (pc' := 57) X0 hx (hb hby d1_55) rfl rfl ?_
    refine own_lload (pc' := 59) X0 hx (hb hby d1_57) rfl rfl ?_
    refine own_iload (pc' := 61) X0 hx (hb hby d1_59) rfl rfl ?_
    refine own_iloadN (pc' := 62) X0 hx (hb hby d1_61) rfl rfl ?_
    refine own_imul (pc' := 63) X0 hx (hb hby d1_62) rfl ?_
    refine own_lshl (pc' := 64) X0 hx (hb hby d1_63) rfl ?_
    refine own_lor (pc' := 65) X0 hx (hb hby d1_64) rfl ?_
    obtain ⟨v1, hv1⟩ : ∃ z : Int64, z = (v ||| (wb <<< ((run * p') &&& 0x3f).toInt64)) := ⟨_, rfl⟩
    refine own_lstore (pc' := 67) (l' := #[.val (.ref a1), .val (.int st), .val (.int w), .val (.int p'), .val (.int n'), .val (.int gp), .val (.long wb), .second, .val (.long v1), .second, .val (.int run), .unset, .unset, .unset]) X0 hx (hb hby d1_65) hv1 rfl rfl ?_
    obtain ⟨v2, hv2⟩ : ∃ z : Int32, z = (run + (1 : Int32)) := ⟨_, rfl⟩
    refine own_iinc (pc' := 70) (l' := #[.val (.ref a1), .val (.int st), .val (.int w), .val (.int p'), .val (.int n'), .val (.int gp), .val (.long wb), .second, .val (.long v1), .second, .val (.int v2), .unset, .unset, .unset]) X0 hx (hb hby d1_67) rfl hv2 rfl rfl ?_
    refine own_goto (pc' := 48) X0 hx (hb hby d1_70) (by decide) rfl ?_
    have lt : t < nn := (own_ltN hrun hN).mp hc52
    have tp := own_tp hsp lt
    have r1 : v2.toInt = ((t + 1 : Nat) : Int) := by rw [hv2]; exact own_addN hrun (by decide) (by have := own_nle hsp hw1 hwp; omega)
    refine ih _ (by omega) v2 v1 (t + 1) rfl (by omega) r1 ?_
    rw [hv1]
    exact own_UpYes hU trivial (by rw [own_pos0]; exact own_mulN hrun hP (by omega)) (by rw [own_pos0]; exact tp) hw1 hwb
set_option maxRecDepth 65536 in
set_option maxHeartbeats 4000000 in
theorem lpI {p : Program} {l : Launch} {e : Env} {s : State} {m : MethodId} {args : Array Value} {below : List Frame} {meth : Method} {c : Code} {Z : State} {a0 : Array Value} {Q : Option Value → Heap → List Loc → Prop} {kq nq : Nat} (hw : ∀ d ∈ tables_1, d.before a0 Z = true) (hx : p.tables.exec = Jvm.exec) (hby : c.code = prog_36_method_1_code) (hml : c.maxLocals = 14) (hown : s.vm.findClass "com/example/nimble_bloom/nimblebloom/filter/WordMask" = some m.cls) (hZ : Z.Warmed39 s.vm) {R : Room} {cs ss n0 : Nat} (a1 : Addr) (st w p' n' gp : Int32) (wb : Int64) (wn pn nn : Nat) (hW : w.toInt = (wn : Int)) (hP : p'.toInt = (pn : Int)) (hN : n'.toInt = (nn : Int)) (hw1 : 1 ≤ wn) (hwp : wn ≤ pn) (hsp : (nn - 1) * pn + wn ≤ 64) (hwb : ∀ x, own_bit wb x = decide (x < wn)) (gn : Nat) (hG : gp.toInt = (gn : Int)) (hg : pn = wn + gn) (v8 : Int64) (b : Addr) (rI : Int32) (r : Nat) (hr : rI.toInt = (r : Int)) (hr5 : r < 5) (kk : ClassId) (vs : List Value) (hlen : vs.length = 5) (hL : Heap) (g_b : n0 ≤ b)
    (K : ∀ (T' : State) (h' : Heap) (L' : List Loc) (run : Int32) (mv : Int64) (sl : Slot), Stand p l e R s m args below meth c T' L' cs ss → T'.heap = h' → Fr n0 L' → Keep hL h' [b] → Arv Z h' b kk .long 5 (vs.set r (.long mv)) (.long 0) → own_Up nn wn pn r (fun t => t / 2 ^ r % 2 = 1) mv → (sl = .unset ∨ ∃ z, sl = .val (.int z)) → own_WP p e below s Q kq nq (T'.setTop (mkF m 190 #[.val (.ref a1), .val (.int st), .val (.int w), .val (.int p'), .val (.int n'), .val (.int gp), .val (.long wb), .second, .val (.long v8), .second, .val (.ref b), .val (.int rI), .val (.int run), sl] []))) :
    ∀ (k : Nat) (T0 : State) (h0 : Heap) (L0 : List Loc) (run : Int32) (mv : Int64) (sl : Slot) (t : Nat), nn - t = k → t ≤ nn → run.toInt = (t : Int) → Stand p l e R s m args below meth c T0 L0 cs ss → T0.heap = h0 → Fr n0 L0 → Keep hL h0 [b] → Arv Z h0 b kk .long 5 (vs.set r (.long mv)) (.long 0) → own_Up t wn pn r (fun t => t / 2 ^ r % 2 = 1) mv → (sl = .unset ∨ ∃ z, sl = .val (.int z)) → own_WP p e below s Q kq nq (T0.setTop (mkF m 135 #[.val (.ref a1), .val (.int st), .val (.int w), .val (.int p'), .val (.int n'), .val (.int gp), .val (.long wb), .second, .val (.long v8), .second, .val (.ref b), .val (.int rI), .val (.int run), sl] [])) := by
  intro k
  induction k using Nat.strongRecOn with | _ k ih => ?_
  intro T0 h0 L0 run mv sl t hk htn hrun X0 e0 N0 KL V0 hU hsl
  have hjr : ¬ rI < 0 ∧ rI < 5 := ⟨fun q => by have := (own_ltN hr (show (0 : Int32).toInt = ((0 : Nat) : Int) by decide)).mp q; omega, (own_ltN hr (show (5 : Int32).toInt = ((5 : Nat) : Int) by decide)).mpr hr5⟩
  have hir : rI.toNatClampNeg = r := by show rI.toInt.toNat = r; omega
  have hlr : r < (vs.set r (.long mv)).length := by rw [List.length_set]; omega
  have hgr : (vs.set r (.long mv)).getD rI.toNatClampNeg (.long 0) = .long mv := by rw [hir]; exact own_getset vs r _ _ (by omega)
  have z0 : n0 ≤ h0.size := Nat.le_trans g_b (Nat.le_of_lt V0.lt)
  rcases hsl with rfl | ⟨z13, rfl⟩
  · skip
    show own_WP _ _ _ _ _ _ _ (T0.setTop (mkF m 135 #[.val (.ref a1), .val (.int st), .val (.int w), .val (.int p'), .val (.int n'), .val (.int gp), .val (.long wb), .second, .val (.long v8), .second, .val (.ref b), .val (.int rI), .val (.int run), .unset] []))
    refine own_iload (pc' := 137) X0 hx (hb hby d1_135) rfl rfl ?_
    refine own_iload (pc' := 139) X0 hx (hb hby d1_137) rfl rfl ?_
    refine own_icmp_ge (pt := 190) (pf := 142) X0 hx (hb hby d1_139) rfl (by decide) rfl (fun hc139 => ?_) (fun hc139 => ?_)
    · skip
      have e : t = nn := by have q := own_ltN hrun hN; have q2 : ¬ t < nn := fun z => hc139 (q.mpr z); omega
      exact K _ _ _ run mv _ X0 e0 N0 KL V0 (e ▸ hU) (Or.inl rfl)
    · skip
      have lt : t < nn := (own_ltN hrun hN).mp hc139
      have tp := own_tp hsp lt
      have t64 : t < 64 := by have := own_nle hsp hw1 hwp; omega
      have dg := own_digit hrun hr t64 hr5
      refine own_iload (pc' := 144) X0 hx (hb hby d1_142) rfl rfl ?_
      refine own_iload (pc' := 146) X0 hx (hb hby d1_144) rfl rfl ?_
      refine own_iushr (pc' := 147) X0 hx (hb hby d1_146) rfl ?_
      refine own_iconst (pc' := 148) X0 hx (1 : Int32) (hb hby d1_147) rfl rfl ?_
      refine own_iand (pc' := 149) X0 hx (hb hby d1_148) rfl ?_
      refine own_if_eq (pt := 184) (pf := 152) X0 hx (hb hby d1_149) rfl (by decide) rfl (fun hc149 => ?_) (fun hc149 => ?_)
      · skip
        obtain ⟨v1, hv1⟩ : ∃ z : Int32, z = (run + (1 : Int32)) := ⟨_, rfl⟩
        refine own_iinc (pc' := 187) (l' := #[.val (.ref a1), .val (.int st), .val (.int w), .val (.int p'), .val (.int n'), .val (.int gp), .val (.long wb), .second, .val (.long v8), .second, .val (.ref b), .val (.int rI), .val (.int v1), .unset]) X0 hx (hb hby d1_184) rfl hv1 rfl rfl ?_
        refine own_goto (pc' := 135) X0 hx (hb hby d1_187) (by decide) rfl ?_
        have r1 : v1.toInt = ((t + 1 : Nat) : Int) := by rw [hv1]; exact own_addN hrun (by decide) (by omega)
        exact ih _ (by omega) T0 h0 _ v1 mv _ (t + 1) rfl (by omega) r1 X0 e0 N0 KL V0 (own_UpNo hU (by have := dg.1.mp hc149; omega)) (Or.inl rfl)
      · skip
        refine own_iload (pc' := 154) X0 hx (hb hby d1_152) rfl rfl ?_
        refine own_iloadN (pc' := 155) X0 hx (hb hby d1_154) rfl rfl ?_
        refine own_imul (pc' := 156) X0 hx (hb hby d1_155) rfl ?_
        refine own_iload (pc' := 158) X0 hx (hb hby d1_156) rfl rfl ?_
        refine own_iconst (pc' := 159) X0 hx (1 : Int32) (hb hby d1_158) rfl rfl ?_
        refine own_iload (pc' := 161) X0 hx (hb hby d1_159) rfl rfl ?_
        refine own_ishl (pc' := 162) X0 hx (hb hby d1_161) rfl ?_
        refine own_iconst (pc' := 163) X0 hx (1 : Int32) (hb hby d1_162) rfl rfl ?_
        refine own_isub (pc' := 164) X0 hx (hb hby d1_163) rfl ?_
        refine own_iand (pc' := 165) X0 hx (hb hby d1_164) rfl ?_
        refine own_iload (pc' := 167) X0 hx (hb hby d1_165) rfl rfl ?_
        refine own_imul (pc' := 168) X0 hx (hb hby d1_167) rfl ?_
        refine own_isub (pc' := 169) X0 hx (hb hby d1_168) rfl ?_
        obtain ⟨v2, hv2⟩ : ∃ z : Int32, z = ((run * p') - ((run &&& (((1 : Int32) <<< (rI &&& 31)) - (1 : Int32))) * gp)) := ⟨_, rfl⟩
        refine own_istore (pc' := 171) (l' := #[.val (.ref a1), .val (.int st), .val (.int w), .val (.int p'), .val (.int n'), .val (.int gp), .val (.long wb), .second, .val (.long v8), .second, .val (.ref b), .val (.int rI), .val (.int run), .val (.int v2)]) X0 hx (hb hby d1_169) hv2 rfl rfl ?_
        refine own_aload (pc' := 173) X0 hx (hb hby d1_171) rfl rfl rfl ?_
        refine own_iload (pc' := 175) X0 hx (hb hby d1_173) rfl rfl ?_
        refine own_dup2 (pc' := 176) X0 hx (hb hby d1_175) rfl rfl rfl ?_
        refine own_laload (pc' := 177) (v := (.long mv)) X0 hx hZ e0 V0 hjr hgr (hb hby d1_176) rfl ?_
        refine own_lload (pc' := 179) X0 hx (hb hby d1_177) rfl rfl ?_
        refine own_iload (pc' := 181) X0 hx (hb hby d1_179) rfl rfl ?_
        refine own_lshl (pc' := 182) X0 hx (hb hby d1_181) rfl ?_
        refine own_lor (pc' := 183) X0 hx (hb hby d1_182) rfl ?_
        obtain ⟨v4, hv4⟩ : ∃ z : Int64, z = (mv ||| (wb <<< (v2 &&& 0x3f).toInt64)) := ⟨_, rfl⟩
        rw [← hv4]
        have dg1 : t / 2 ^ r % 2 = 1 := by have : ¬ t / 2 ^ r % 2 = 0 := fun z => hc149 (dg.1.mpr z); omega
        have hb13 : v2.toInt = ((own_pos pn wn r t : Nat) : Int) := by rw [hv2]; exact own_before hrun hP hG hg dg.2 (by omega)
        have hple := own_posle pn wn r t hwp
        have hU2 := own_UpYes hU dg1 hb13 (by omega) hw1 hwb
        refine own_lastore (pc' := 184) X0 hx hZ e0 V0 hjr r hir hlr (hb hby d1_183) rfl ?_
        intro T3 h3 X3 e3 W3 V3
        have z3 : n0 ≤ h3.size := Nat.le_trans z0 (Keep.of_wr W3).1
        have N3 := Fr.snoc X3 N0 g_b
        rw [List.set_set] at V3
        have KL2 : Keep hL h3 [b] := KL.wr W3 (Or.inl (List.mem_of_getElem? (i := 0) rfl))
        rw [← hv4] at hU2
        obtain ⟨v5, hv5⟩ : ∃ z : Int32, z = (run + (1 : Int32)) := ⟨_, rfl⟩
        refine own_iinc (pc' := 187) (l' := #[.val (.ref a1), .val (.int st), .val (.int w), .val (.int p'), .val (.int n'), .val (.int gp), .val (.long wb), .second, .val (.long v8), .second, .val (.ref b), .val (.int rI), .val (.int v5), .val (.int v2)]) X3 hx (hb hby d1_184) rfl hv5 rfl rfl ?_
        refine own_goto (pc' := 135) X3 hx (hb hby d1_187) (by decide) rfl ?_
        have r1 : v5.toInt = ((t + 1 : Nat) : Int) := by rw [hv5]; exact own_addN hrun (by decide) (by omega)
        exact ih _ (by omega) T3 h3 _ v5 _ _ (t + 1) rfl (by omega) r1 X3 e3 N3 KL2 V3 hU2 (Or.inr ⟨_, rfl⟩)
  · skip
    show own_WP _ _ _ _ _ _ _ (T0.setTop (mkF m 135 #[.val (.ref a1), .val (.int st), .val (.int w), .val (.int p'), .val (.int n'), .val (.int gp), .val (.long wb), .second, .val (.long v8), .second, .val (.ref b), .val (.int rI), .val (.int run), .val (.int z13)] []))
    refine own_iload (pc' := 137) X0 hx (hb hby d1_135) rfl rfl ?_
    refine own_iload (pc' := 139) X0 hx (hb hby d1_137) rfl rfl ?_
    refine own_icmp_ge (pt := 190) (pf := 142) X0 hx (hb hby d1_139) rfl (by decide) rfl (fun hc139 => ?_) (fun hc139 => ?_)
    · skip
      have e : t = nn := by have q := own_ltN hrun hN; have q2 : ¬ t < nn := fun z => hc139 (q.mpr z); omega
      exact K _ _ _ run mv _ X0 e0 N0 KL V0 (e ▸ hU) (Or.inr ⟨_, rfl⟩)
    · skip
      have lt : t < nn := (own_ltN hrun hN).mp hc139
      have tp := own_tp hsp lt
      have t64 : t < 64 := by have := own_nle hsp hw1 hwp; omega
      have dg := own_digit hrun hr t64 hr5
      refine own_iload (pc' := 144) X0 hx (hb hby d1_142) rfl rfl ?_
      refine own_iload (pc' := 146) X0 hx (hb hby d1_144) rfl rfl ?_
      refine own_iushr (pc' := 147) X0 hx (hb hby d1_146) rfl ?_
      refine own_iconst (pc' := 148) X0 hx (1 : Int32) (hb hby d1_147) rfl rfl ?_
      refine own_iand (pc' := 149) X0 hx (hb hby d1_148) rfl ?_
      refine own_if_eq (pt := 184) (pf := 152) X0 hx (hb hby d1_149) rfl (by decide) rfl (fun hc149 => ?_) (fun hc149 => ?_)
      · skip
        obtain ⟨v6, hv6⟩ : ∃ z : Int32, z = (run + (1 : Int32)) := ⟨_, rfl⟩
        refine own_iinc (pc' := 187) (l' := #[.val (.ref a1), .val (.int st), .val (.int w), .val (.int p'), .val (.int n'), .val (.int gp), .val (.long wb), .second, .val (.long v8), .second, .val (.ref b), .val (.int rI), .val (.int v6), .val (.int z13)]) X0 hx (hb hby d1_184) rfl hv6 rfl rfl ?_
        refine own_goto (pc' := 135) X0 hx (hb hby d1_187) (by decide) rfl ?_
        have r1 : v6.toInt = ((t + 1 : Nat) : Int) := by rw [hv6]; exact own_addN hrun (by decide) (by omega)
        exact ih _ (by omega) T0 h0 _ v6 mv _ (t + 1) rfl (by omega) r1 X0 e0 N0 KL V0 (own_UpNo hU (by have := dg.1.mp hc149; omega)) (Or.inr ⟨_, rfl⟩)
      · skip
        refine own_iload (pc' := 154) X0 hx (hb hby d1_152) rfl rfl ?_
        refine own_iloadN (pc' := 155) X0 hx (hb hby d1_154) rfl rfl ?_
        refine own_imul (pc' := 156) X0 hx (hb hby d1_155) rfl ?_
        refine own_iload (pc' := 158) X0 hx (hb hby d1_156) rfl rfl ?_
        refine own_iconst (pc' := 159) X0 hx (1 : Int32) (hb hby d1_158) rfl rfl ?_
        refine own_iload (pc' := 161) X0 hx (hb hby d1_159) rfl rfl ?_
        refine own_ishl (pc' := 162) X0 hx (hb hby d1_161) rfl ?_
        refine own_iconst (pc' := 163) X0 hx (1 : Int32) (hb hby d1_162) rfl rfl ?_
        refine own_isub (pc' := 164) X0 hx (hb hby d1_163) rfl ?_
        refine own_iand (pc' := 165) X0 hx (hb hby d1_164) rfl ?_
        refine own_iload (pc' := 167) X0 hx (hb hby d1_165) rfl rfl ?_
        refine own_imul (pc' := 168) X0 hx (hb hby d1_167) rfl ?_
        refine own_isub (pc' := 169) X0 hx (hb hby d1_168) rfl ?_
        obtain ⟨v7, hv7⟩ : ∃ z : Int32, z = ((run * p') - ((run &&& (((1 : Int32) <<< (rI &&& 31)) - (1 : Int32))) * gp)) := ⟨_, rfl⟩
        refine own_istore (pc' := 171) (l' := #[.val (.ref a1), .val (.int st), .val (.int w), .val (.int p'), .val (.int n'), .val (.int gp), .val (.long wb), .second, .val (.long v8), .second, .val (.ref b), .val (.int rI), .val (.int run), .val (.int v7)]) X0 hx (hb hby d1_169) hv7 rfl rfl ?_
        refine own_aload (pc' := 173) X0 hx (hb hby d1_171) rfl rfl rfl ?_
        refine own_iload (pc' := 175) X0 hx (hb hby d1_173) rfl rfl ?_
        refine own_dup2 (pc' := 176) X0 hx (hb hby d1_175) rfl rfl rfl ?_
        refine own_laload (pc' := 177) (v := (.long mv)) X0 hx hZ e0 V0 hjr hgr (hb hby d1_176) rfl ?_
        refine own_lload (pc' := 179) X0 hx (hb hby d1_177) rfl rfl ?_
        refine own_iload (pc' := 181) X0 hx (hb hby d1_179) rfl rfl ?_
        refine own_lshl (pc' := 182) X0 hx (hb hby d1_181) rfl ?_
        refine own_lor (pc' := 183) X0 hx (hb hby d1_182) rfl ?_
        obtain ⟨v9, hv9⟩ : ∃ z : Int64, z = (mv ||| (wb <<< (v7 &&& 0x3f).toInt64)) := ⟨_, rfl⟩
        rw [← hv9]
        have dg1 : t / 2 ^ r % 2 = 1 := by have : ¬ t / 2 ^ r % 2 = 0 := fun z => hc149 (dg.1.mpr z); omega
        have hb13 : v7.toInt = ((own_pos pn wn r t : Nat) : Int) := by rw [hv7]; exact own_before hrun hP hG hg dg.2 (by omega)
        have hple := own_posle pn wn r t hwp
        have hU2 := own_UpYes hU dg1 hb13 (by omega) hw1 hwb
        refine own_lastore (pc' := 184) X0 hx hZ e0 V0 hjr r hir hlr (hb hby d1_183) rfl ?_
        intro T8 h8 X8 e8 W8 V8
        have z8 : n0 ≤ h8.size := Nat.le_trans z0 (Keep.of_wr W8).1
        have N8 := Fr.snoc X8 N0 g_b
        rw [List.set_set] at V8
        have KL2 : Keep hL h8 [b] := KL.wr W8 (Or.inl (List.mem_of_getElem? (i := 0) rfl))
        rw [← hv9] at hU2
        obtain ⟨v10, hv10⟩ : ∃ z : Int32, z = (run + (1 : Int32)) := ⟨_, rfl⟩
        refine own_iinc (pc' := 187) (l' := #[.val (.ref a1), .val (.int st), .val (.int w), .val (.int p'), .val (.int n'), .val (.int gp), .val (.long wb), .second, .val (.long v8), .second, .val (.ref b), .val (.int rI), .val (.int v10), .val (.int v7)]) X8 hx (hb hby d1_184) rfl hv10 rfl rfl ?_
        refine own_goto (pc' := 135) X8 hx (hb hby d1_187) (by decide) rfl ?_
        have r1 : v10.toInt = ((t + 1 : Nat) : Int) := by rw [hv10]; exact own_addN hrun (by decide) (by omega)
        exact ih _ (by omega) T8 h8 _ v10 _ _ (t + 1) rfl (by omega) r1 X8 e8 N8 KL2 V8 hU2 (Or.inr ⟨_, rfl⟩)
theorem ef_conC (m : MethodId) (a1 : Addr) (st : Int32) (w : Int32) (p' : Int32) (n' : Int32) : entryFrame m #[(.ref a1), (.int st), (.int w), (.int p'), (.int n')] 14 = mkF m 0 #[.val (.ref a1), .val (.int st), .val (.int w), .val (.int p'), .val (.int n'), .unset, .unset, .unset, .unset, .unset, .unset, .unset, .unset, .unset] [] := by first | (simp [entryFrame, mkF, argsToLocals, Value.category]; done) | rfl
theorem pd0 : parseMethodDescriptor "(I)I" = some ⟨[.int], some .int⟩ := by decide +kernel
set_option maxRecDepth 65536 in
set_option maxHeartbeats 40000000 in
theorem conC (l : Launch) (Z : State) (a0 : Array Value) (hw : ∀ d ∈ tables_1, d.before a0 Z = true) (a1 : Addr) (st : Int32) (w : Int32) (p' : Int32) (n' : Int32) (h0 : Heap) (n0 : Nat) (Z0 : n0 ≤ h0.size) (sn wn pn nn : Nat) (hN4 : own_N st w p' n' sn wn pn nn) (E1 : Exa Z h0 a1 "com/example/nimble_bloom/nimblebloom/filter/WordMask") (F_start : Fld Z h0 a1 "com/example/nimble_bloom/nimblebloom/filter/WordMask" "start" "I" (.int (0 : Int32))) (F_runs : Fld Z h0 a1 "com/example/nimble_bloom/nimblebloom/filter/WordMask" "runs" "J" (.long (0 : Int64))) (F_mask : Fld Z h0 a1 "com/example/nimble_bloom/nimblebloom/filter/WordMask" "mask" "J" (.long (0 : Int64))) (F_count : Fld Z h0 a1 "com/example/nimble_bloom/nimblebloom/filter/WordMask" "count" "I" (.int (0 : Int32))) (F_low : Fld Z h0 a1 "com/example/nimble_bloom/nimblebloom/filter/WordMask" "low" "J" (.long (0 : Int64))) (F_rounds : Fld Z h0 a1 "com/example/nimble_bloom/nimblebloom/filter/WordMask" "rounds" "I" (.int (0 : Int32))) (F_moving0 : Fld Z h0 a1 "com/example/nimble_bloom/nimblebloom/filter/WordMask" "moving0" "J" (.long (0 : Int64))) (F_moving1 : Fld Z h0 a1 "com/example/nimble_bloom/nimblebloom/filter/WordMask" "moving1" "J" (.long (0 : Int64))) (F_moving2 : Fld Z h0 a1 "com/example/nimble_bloom/nimblebloom/filter/WordMask" "moving2" "J" (.long (0 : Int64))) (F_moving3 : Fld Z h0 a1 "com/example/nimble_bloom/nimblebloom/filter/WordMask" "moving3" "J" (.long (0 : Int64))) (F_moving4 : Fld Z h0 a1 "com/example/nimble_bloom/nimblebloom/filter/WordMask" "moving4" "J" (.long (0 : Int64))) (F_distance0 : Fld Z h0 a1 "com/example/nimble_bloom/nimblebloom/filter/WordMask" "distance0" "I" (.int (0 : Int32))) (F_distance1 : Fld Z h0 a1 "com/example/nimble_bloom/nimblebloom/filter/WordMask" "distance1" "I" (.int (0 : Int32))) (F_distance2 : Fld Z h0 a1 "com/example/nimble_bloom/nimblebloom/filter/WordMask" "distance2" "I" (.int (0 : Int32))) (F_distance3 : Fld Z h0 a1 "com/example/nimble_bloom/nimblebloom/filter/WordMask" "distance3" "I" (.int (0 : Int32))) (F_distance4 : Fld Z h0 a1 "com/example/nimble_bloom/nimblebloom/filter/WordMask" "distance4" "I" (.int (0 : Int32))) (F_moved0 : Fld Z h0 a1 "com/example/nimble_bloom/nimblebloom/filter/WordMask" "moved0" "J" (.long (0 : Int64))) (F_moved1 : Fld Z h0 a1 "com/example/nimble_bloom/nimblebloom/filter/WordMask" "moved1" "J" (.long (0 : Int64))) (F_moved2 : Fld Z h0 a1 "com/example/nimble_bloom/nimblebloom/filter/WordMask" "moved2" "J" (.long (0 : Int64))) (F_moved3 : Fld Z h0 a1 "com/example/nimble_bloom/nimblebloom/filter/WordMask" "moved3" "J" (.long (0 : Int64))) (F_moved4 : Fld Z h0 a1 "com/example/nimble_bloom/nimblebloom/filter/WordMask" "moved4" "J" (.long (0 : Int64))) (g_a1 : n0 ≤ a1) :
    own_Con l Z (⟨"com/example/nimble_bloom/nimblebloom/filter/WordMask", "<init>", "(IIII)V"⟩ : MethodName) prog_36_method_1_code 14 none ({ frames := 1, cells := 1, slots := 5, locals := 15 } : Room) #[(.ref a1), (.int st), (.int w), (.int p'), (.int n')] h0 (fun v h L => ∃ (R : Nat) (rI : Int32) (rn lo : Int64) (m0 m1 m2 m3 m4 u0 u1 u2 u3 u4 : Int64) (d0 d1 d2 d3 d4 : Int32), rI.toInt = (R : Int) ∧ own_WM wn pn nn R rn lo (own_5 m0 m1 m2 m3 m4) (own_5 u0 u1 u2 u3 u4) (own_5 d0 d1 d2 d3 d4) ∧ v = none ∧ Fr n0 L ∧ Keep h0 h [a1] ∧ Exa Z h a1 "com/example/nimble_bloom/nimblebloom/filter/WordMask" ∧ Fld Z h a1 "com/example/nimble_bloom/nimblebloom/filter/WordMask" "start" "I" (.int st) ∧ Fld Z h a1 "com/example/nimble_bloom/nimblebloom/filter/WordMask" "runs" "J" (.long rn) ∧ Fld Z h a1 "com/example/nimble_bloom/nimblebloom/filter/WordMask" "low" "J" (.long lo) ∧ Fld Z h a1 "com/example/nimble_bloom/nimblebloom/filter/WordMask" "rounds" "I" (.int rI) ∧ Fld Z h a1 "com/example/nimble_bloom/nimblebloom/filter/WordMask" "moving0" "J" (.long m0) ∧ Fld Z h a1 "com/example/nimble_bloom/nimblebloom/filter/WordMask" "moving1" "J" (.long m1) ∧ Fld Z h a1 "com/example/nimble_bloom/nimblebloom/filter/WordMask" "moving2" "J" (.long m2) ∧ Fld Z h a1 "com/example/nimble_bloom/nimblebloom/filter/WordMask" "moving3" "J" (.long m3) ∧ Fld Z h a1 "com/example/nimble_bloom/nimblebloom/filter/WordMask" "moving4" "J" (.long m4) ∧ Fld Z h a1 "com/example/nimble_bloom/nimblebloom/filter/WordMask" "moved0" "J" (.long u0) ∧ Fld Z h a1 "com/example/nimble_bloom/nimblebloom/filter/WordMask" "moved1" "J" (.long u1) ∧ Fld Z h a1 "com/example/nimble_bloom/nimblebloom/filter/WordMask" "moved2" "J" (.long u2) ∧ Fld Z h a1 "com/example/nimble_bloom/nimblebloom/filter/WordMask" "moved3" "J" (.long u3) ∧ Fld Z h a1 "com/example/nimble_bloom/nimblebloom/filter/WordMask" "moved4" "J" (.long u4) ∧ Fld Z h a1 "com/example/nimble_bloom/nimblebloom/filter/WordMask" "distance0" "I" (.int d0) ∧ Fld Z h a1 "com/example/nimble_bloom/nimblebloom/filter/WordMask" "distance1" "I" (.int d1) ∧ Fld Z h a1 "com/example/nimble_bloom/nimblebloom/filter/WordMask" "distance2" "I" (.int d2) ∧ Fld Z h a1 "com/example/nimble_bloom/nimblebloom/filter/WordMask" "distance3" "I" (.int d3) ∧ Fld Z h a1 "com/example/nimble_bloom/nimblebloom/filter/WordMask" "distance4" "I" (.int d4)) := by
  refine own_Con_of pn_1 ?_
  intro p e s m below meth c s₁ X0 hx hby hml hret hlk hnm hown hZ e0
  have hown : s.vm.findClass "com/example/nimble_bloom/nimblebloom/filter/WordMask" = some m.cls := hown
  have hml : c.maxLocals = 14 := hml
  have N0 := Fr.nil n0
  show own_WP _ _ _ _ _ _ _ (s₁.setTop (entryFrame m #[(.ref a1), (.int st), (.int w), (.int p'), (.int n')] 14))
  rw [ef_conC m a1 st w p' n']
  obtain ⟨hS, hW, hP, hN, hw1, hwp, hn1, hsp0⟩ := hN4
  have hsp : (nn - 1) * pn + wn ≤ 64 := by omega
  have hcn := own_cntle hsp hwp hn1
  have hg : pn = wn + (pn - wn) := by omega
  refine own_aloadN (pc' := 1) X0 hx (hb hby d1_0) rfl rfl rfl ?_
  refine own_initO (pc' := 4) (W := 0) X0 hx hZ hown (own_w hw 7 rfl) (own_w hw 8 rfl) (own_w hw 9 rfl) e0 (by rw [hml]; rfl) (hb hby d1_1) (by decide) (Nat.le_of_eq rfl) (by decide) rfl ?_
  intro T1 X1 e1
  refine own_iloadN (pc' := 5) X1 hx (hb hby d1_4) rfl rfl ?_
  refine own_iloadN (pc' := 6) X1 hx (hb hby d1_5) rfl rfl ?_
  refine own_isub (pc' := 7) X1 hx (hb hby d1_6) rfl ?_
  obtain ⟨v2, hv2⟩ : ∃ z : Int32, z = (p' - w) := ⟨_, rfl⟩
  refine own_istore (pc' := 9) (l' := #[.val (.ref a1), .val (.int st), .val (.int w), .val (.int p'), .val (.int n'), .val (.int v2), .unset, .unset, .unset, .unset, .unset, .unset, .unset, .unset]) X1 hx (hb hby d1_7) hv2 rfl rfl ?_
  refine own_aloadN (pc' := 10) X1 hx (hb hby d1_9) rfl rfl rfl ?_
  refine own_iload (pc' := 12) X1 hx (hb hby d1_10) rfl rfl ?_
  have hG : v2.toInt = ((pn - wn : Nat) : Int) := by rw [hv2]; exact own_subN hP hW hwp
  refine own_join (fun x : State × Int32 => Stand p l e ({ frames := 1, cells := 1, slots := 5, locals := 15 } : Room) s m #[(.ref a1), (.int st), (.int w), (.int p'), (.int n')] below meth c x.1 [] 0 0 ∧ x.1.heap = h0 ∧ ∃ R : Nat, x.2.toInt = (R : Int) ∧ own_RP pn wn nn R) (fun x => x.1.setTop (mkF m 29 #[.val (.ref a1), .val (.int st), .val (.int w), .val (.int p'), .val (.int n'), .val (.int v2), .unset, .unset, .unset, .unset, .unset, .unset, .unset, .unset] [(.int x.2), (.ref a1)])) (fun J29 => ?_) (fun x hx29 => ?_)
  · skip
    refine own_if_ne (pt := 19) (pf := 15) X1 hx (hb hby d1_12) rfl (by decide) rfl (fun hc12 => ?_) (fun hc12 => ?_)
    · skip
      refine own_bipush (pc' := 21) X1 hx (32 : Int32) (hb hby d1_19) rfl rfl ?_
      refine own_iload (pc' := 23) X1 hx (hb hby d1_21) rfl rfl ?_
      refine own_iconst (pc' := 24) X1 hx (1 : Int32) (hb hby d1_23) rfl rfl ?_
      refine own_isub (pc' := 25) X1 hx (hb hby d1_24) rfl ?_
      refine own_callS (pc' := 28) (W := 2) (y := (⟨"java/lang/Integer", "numberOfLeadingZeros", "(I)I"⟩ : MethodName)) X1 hx hZ hown (own_w hw 10 rfl) (own_w hw 11 rfl) (own_w hw 12 rfl) (own_w hw 13 rfl) (by decide) (conZ l Z a0 hw (n' - (1 : Int32)) _ ) e1 pd0 [(.int (n' - (1 : Int32)))] [(.int (32 : Int32)), (.ref a1)] rfl rfl rfl (Nat.le_of_eq rfl) (by decide) (by decide) (by rw [hml]; rfl) (hb hby d1_25) (by decide) (by decide) rfl ?_
      intro v3 T3 L3 X3 q3
      obtain ⟨r3, rfl, hr3, rfl, e3⟩ := q3
      have N3 := Fr.app N0 (Fr.nil n0)
      show own_WP _ _ _ _ _ _ _ (T3.setTop (mkF m 28 #[.val (.ref a1), .val (.int st), .val (.int w), .val (.int p'), .val (.int n'), .val (.int v2), .unset, .unset, .unset, .unset, .unset, .unset, .unset, .unset] [(.int r3), (.int (32 : Int32)), (.ref a1)]))
      refine own_isub (pc' := 29) X3 hx (hb hby d1_28) rfl ?_
      exact J29 ⟨T3, ((32 : Int32) - r3)⟩ ⟨X3, e3, (by rw [hr3]; exact own_rounds hN hn1 hg (fun q => hc12 (Int32.toInt_inj.mp (by rw [hG, q]; rfl))) hw1 hsp)⟩
    · skip
      refine own_iconst (pc' := 16) X1 hx (0 : Int32) (hb hby d1_15) rfl rfl ?_
      refine own_goto (pc' := 29) X1 hx (hb hby d1_16) (by decide) rfl ?_
      exact J29 ⟨T1, (0 : Int32)⟩ ⟨X1, e1, ⟨0, own_z0, own_RP0 (own_RPz hG hc12 hwp)⟩⟩
  · obtain ⟨T4, jr⟩ := x
    obtain ⟨X4, e4, hjr⟩ := hx29
    have hjr : ∃ R : Nat, jr.toInt = (R : Int) ∧ own_RP pn wn nn R := hjr
    have e4 : T4.heap = h0 := e4
    have N4 := Fr.nil n0
    show own_WP _ _ _ _ _ _ _ (T4.setTop (mkF m 29 #[.val (.ref a1), .val (.int st), .val (.int w), .val (.int p'), .val (.int n'), .val (.int v2), .unset, .unset, .unset, .unset, .unset, .unset, .unset, .unset] [(.int jr), (.ref a1)]))
    obtain ⟨RR, hRR, hRP⟩ := hjr
    have hR6 : RR = 0 ∨ RR = 1 ∨ RR = 2 ∨ RR = 3 ∨ RR = 4 ∨ RR = 5 := by have := hRP.1; omega
    rcases hR6 with rfl | rfl | rfl | rfl | rfl | rfl
    · obtain rfl : jr = (0 : Int32) := Int32.toInt_inj.mp (hRR.trans (by decide))
      show own_WP _ _ _ _ _ _ _ (T4.setTop (mkF m 29 #[.val (.ref a1), .val (.int st), .val (.int w), .val (.int p'), .val (.int n'), .val (.int v2), .unset, .unset, .unset, .unset, .unset, .unset, .unset, .unset] [(.int (0 : Int32)), (.ref a1)]))
      refine own_putF (pc' := 32) X4 hx hZ hown (host := "") (Or.inl (own_w hw 15 rfl)) Via.refl e4 F_rounds E1 (Or.inr ⟨(own_w hw 16 rfl), rfl, hnm⟩) (own_w hw 2 rfl) (ty := .int) (by decide) rfl rfl (hb hby d1_29) rfl ?_
      intro T5 h5 X5 e5 W5
      have z5 : n0 ≤ h5.size := Nat.le_trans Z0 (Keep.of_wr W5).1
      have Fw5 := F_rounds.same W5
      have N5 := Fr.snoc X5 N4 g_a1
      have K5 : Keep h0 h5 [a1] := (Keep.refl h0 [a1]).wr W5 (Or.inl (List.mem_of_getElem? (i := 0) rfl))
      refine own_ldc2Long (pc' := 35) X5 hx hZ hown (own_w hw 17 rfl) (hb hby d1_32) rfl ?_
      refine own_bipush (pc' := 37) X5 hx (64 : Int32) (hb hby d1_35) rfl rfl ?_
      refine own_iloadN (pc' := 38) X5 hx (hb hby d1_37) rfl rfl ?_
      refine own_isub (pc' := 39) X5 hx (hb hby d1_38) rfl ?_
      refine own_lushr (pc' := 40) X5 hx (hb hby d1_39) rfl ?_
      obtain ⟨v6, hv6⟩ : ∃ z : Int64, z = (((-1 : Int64).toUInt64 >>> (((64 : Int32) - w) &&& 0x3f).toInt64.toUInt64).toInt64) := ⟨_, rfl⟩
      refine own_lstore (pc' := 42) (l' := #[.val (.ref a1), .val (.int st), .val (.int w), .val (.int p'), .val (.int n'), .val (.int v2), .val (.long v6), .second, .unset, .unset, .unset, .unset, .unset, .unset]) X5 hx (hb hby d1_40) hv6 rfl rfl ?_
      refine own_lconst0 (pc' := 43) X5 hx (hb hby d1_42) rfl ?_
      refine own_lstore (pc' := 45) (l' := #[.val (.ref a1), .val (.int st), .val (.int w), .val (.int p'), .val (.int n'), .val (.int v2), .val (.long v6), .second, .val (.long (0 : Int64)), .second, .unset, .unset, .unset, .unset]) X5 hx (hb hby d1_43) rfl rfl rfl ?_
      refine own_iconst (pc' := 46) X5 hx (0 : Int32) (hb hby d1_45) rfl rfl ?_
      refine own_istore (pc' := 48) (l' := #[.val (.ref a1), .val (.int st), .val (.int w), .val (.int p'), .val (.int n'), .val (.int v2), .val (.long v6), .second, .val (.long (0 : Int64)), .second, .val (.int (0 : Int32)), .unset, .unset, .unset]) X5 hx (hb hby d1_46) rfl rfl rfl ?_
      have hwb : ∀ x, own_bit v6 x = decide (x < wn) := by rw [hv6]; exact own_wbq w wn hW hw1 (by omega)
      refine lpS hw hx hby hml hown hZ X5 a1 st w p' n' v2 v6 wn pn nn hW hP hN hw1 hwp hsp hwb (fun vS runS hUS => ?_) _ 0 0 0 rfl (Nat.zero_le _) (by decide) (own_Up0 _ _ _ _)
      show own_WP _ _ _ _ _ _ _ (T5.setTop (mkF m 73 #[.val (.ref a1), .val (.int st), .val (.int w), .val (.int p'), .val (.int n'), .val (.int v2), .val (.long v6), .second, .val (.long vS), .second, .val (.int runS), .unset, .unset, .unset] []))
      refine own_aloadN (pc' := 74) X5 hx (hb hby d1_73) rfl rfl rfl ?_
      refine own_iloadN (pc' := 75) X5 hx (hb hby d1_74) rfl rfl ?_
      have f7 := (F_start.other W5 (Or.inr (slot_ne (Or.inr (own_w hw 19 rfl)) (Or.inr (own_w hw 16 rfl)) (by decide) (t := .int) (t' := .int) (by decide +kernel) (by decide +kernel))))
      have f8 := (E1.wr W5)
      refine own_putF (pc' := 78) X5 hx hZ hown (host := "") (Or.inl (own_w hw 18 rfl)) Via.refl e5 f7 f8 (Or.inr ⟨(own_w hw 19 rfl), rfl, hnm⟩) (own_w hw 2 rfl) (ty := .int) (by decide) rfl rfl (hb hby d1_75) rfl ?_
      intro T9 h9 X9 e9 W9
      have z9 : n0 ≤ h9.size := Nat.le_trans z5 (Keep.of_wr W9).1
      have Fw9 := f7.same W9
      have N9 := Fr.snoc X9 N5 g_a1
      have K9 : Keep h0 h9 [a1] := K5.wr W9 (Or.inl (List.mem_of_getElem? (i := 0) rfl))
      refine own_aloadN (pc' := 79) X9 hx (hb hby d1_78) rfl rfl rfl ?_
      refine own_lload (pc' := 81) X9 hx (hb hby d1_79) rfl rfl ?_
      have f10 := ((F_runs.other W5 (Or.inr (slot_ne (Or.inr (own_w hw 21 rfl)) (Or.inr (own_w hw 16 rfl)) (by decide) (t := .long) (t' := .int) (by decide +kernel) (by decide +kernel)))).other W9 (Or.inr (slot_ne (Or.inr (own_w hw 21 rfl)) (Or.inr (own_w hw 19 rfl)) (by decide) (t := .long) (t' := .int) (by decide +kernel) (by decide +kernel))))
      have f11 := (f8.wr W9)
      refine own_putF (pc' := 84) X9 hx hZ hown (host := "") (Or.inl (own_w hw 20 rfl)) Via.refl e9 f10 f11 (Or.inr ⟨(own_w hw 21 rfl), rfl, hnm⟩) (own_w hw 2 rfl) (ty := .long) (by decide) rfl rfl (hb hby d1_81) rfl ?_
      intro T12 h12 X12 e12 W12
      have z12 : n0 ≤ h12.size := Nat.le_trans z9 (Keep.of_wr W12).1
      have Fw12 := f10.same W12
      have N12 := Fr.snoc X12 N9 g_a1
      have K12 : Keep h0 h12 [a1] := K9.wr W12 (Or.inl (List.mem_of_getElem? (i := 0) rfl))
      refine own_aloadN (pc' := 85) X12 hx (hb hby d1_84) rfl rfl rfl ?_
      refine own_lload (pc' := 87) X12 hx (hb hby d1_85) rfl rfl ?_
      refine own_iloadN (pc' := 88) X12 hx (hb hby d1_87) rfl rfl ?_
      refine own_lshl (pc' := 89) X12 hx (hb hby d1_88) rfl ?_
      have f13 := (((F_mask.other W5 (Or.inr (slot_ne (Or.inr (own_w hw 23 rfl)) (Or.inr (own_w hw 16 rfl)) (by decide) (t := .long) (t' := .int) (by decide +kernel) (by decide +kernel)))).other W9 (Or.inr (slot_ne (Or.inr (own_w hw 23 rfl)) (Or.inr (own_w hw 19 rfl)) (by decide) (t := .long) (t' := .int) (by decide +kernel) (by decide +kernel)))).other W12 (Or.inr (slot_ne (Or.inr (own_w hw 23 rfl)) (Or.inr (own_w hw 21 rfl)) (by decide) (t := .long) (t' := .long) (by decide +kernel) (by decide +kernel))))
      have f14 := (f11.wr W12)
      obtain ⟨v16, hv16⟩ : ∃ z : Int64, z = (vS <<< (st &&& 0x3f).toInt64) := ⟨_, rfl⟩
      rw [← hv16]
      refine own_putF (pc' := 92) X12 hx hZ hown (host := "") (Or.inl (own_w hw 22 rfl)) Via.refl e12 f13 f14 (Or.inr ⟨(own_w hw 23 rfl), rfl, hnm⟩) (own_w hw 2 rfl) (ty := .long) (by decide) rfl rfl (hb hby d1_89) rfl ?_
      intro T15 h15 X15 e15 W15
      have z15 : n0 ≤ h15.size := Nat.le_trans z12 (Keep.of_wr W15).1
      have Fw15 := f13.same W15
      have N15 := Fr.snoc X15 N12 g_a1
      have K15 : Keep h0 h15 [a1] := K12.wr W15 (Or.inl (List.mem_of_getElem? (i := 0) rfl))
      refine own_aloadN (pc' := 93) X15 hx (hb hby d1_92) rfl rfl rfl ?_
      refine own_iload (pc' := 95) X15 hx (hb hby d1_93) rfl rfl ?_
      refine own_iloadN (pc' := 96) X15 hx (hb hby d1_95) rfl rfl ?_
      refine own_imul (pc' := 97) X15 hx (hb hby d1_96) rfl ?_
      have f17 := ((((F_count.other W5 (Or.inr (slot_ne (Or.inr (own_w hw 25 rfl)) (Or.inr (own_w hw 16 rfl)) (by decide) (t := .int) (t' := .int) (by decide +kernel) (by decide +kernel)))).other W9 (Or.inr (slot_ne (Or.inr (own_w hw 25 rfl)) (Or.inr (own_w hw 19 rfl)) (by decide) (t := .int) (t' := .int) (by decide +kernel) (by decide +kernel)))).other W12 (Or.inr (slot_ne (Or.inr (own_w hw 25 rfl)) (Or.inr (own_w hw 21 rfl)) (by decide) (t := .int) (t' := .long) (by decide +kernel) (by decide +kernel)))).other W15 (Or.inr (slot_ne (Or.inr (own_w hw 25 rfl)) (Or.inr (own_w hw 23 rfl)) (by decide) (t := .int) (t' := .long) (by decide +kernel) (by decide +kernel))))
      have f18 := (f14.wr W15)
      obtain ⟨v20, hv20⟩ : ∃ z : Int32, z = (n' * w) := ⟨_, rfl⟩
      rw [← hv20]
      refine own_putF (pc' := 100) X15 hx hZ hown (host := "") (Or.inl (own_w hw 24 rfl)) Via.refl e15 f17 f18 (Or.inr ⟨(own_w hw 25 rfl), rfl, hnm⟩) (own_w hw 2 rfl) (ty := .int) (by decide) rfl rfl (hb hby d1_97) rfl ?_
      intro T19 h19 X19 e19 W19
      have z19 : n0 ≤ h19.size := Nat.le_trans z15 (Keep.of_wr W19).1
      have Fw19 := f17.same W19
      have N19 := Fr.snoc X19 N15 g_a1
      have K19 : Keep h0 h19 [a1] := K15.wr W19 (Or.inl (List.mem_of_getElem? (i := 0) rfl))
      refine own_aloadN (pc' := 101) X19 hx (hb hby d1_100) rfl rfl rfl ?_
      refine own_ldc2Long (pc' := 104) X19 hx hZ hown (own_w hw 17 rfl) (hb hby d1_101) rfl ?_
      refine own_bipush (pc' := 106) X19 hx (64 : Int32) (hb hby d1_104) rfl rfl ?_
      refine own_aloadN (pc' := 107) X19 hx (hb hby d1_106) rfl rfl rfl ?_
      refine own_getF (pc' := 110) X19 hx hZ hown (host := "") (Or.inl (own_w hw 24 rfl)) Via.refl e19 Fw19 (hb hby d1_107) rfl ?_
      intro T21 X21 e21
      refine own_isub (pc' := 111) X21 hx (hb hby d1_110) rfl ?_
      refine own_lushr (pc' := 112) X21 hx (hb hby d1_111) rfl ?_
      have f22 := (((((F_low.other W5 (Or.inr (slot_ne (Or.inr (own_w hw 27 rfl)) (Or.inr (own_w hw 16 rfl)) (by decide) (t := .long) (t' := .int) (by decide +kernel) (by decide +kernel)))).other W9 (Or.inr (slot_ne (Or.inr (own_w hw 27 rfl)) (Or.inr (own_w hw 19 rfl)) (by decide) (t := .long) (t' := .int) (by decide +kernel) (by decide +kernel)))).other W12 (Or.inr (slot_ne (Or.inr (own_w hw 27 rfl)) (Or.inr (own_w hw 21 rfl)) (by decide) (t := .long) (t' := .long) (by decide +kernel) (by decide +kernel)))).other W15 (Or.inr (slot_ne (Or.inr (own_w hw 27 rfl)) (Or.inr (own_w hw 23 rfl)) (by decide) (t := .long) (t' := .long) (by decide +kernel) (by decide +kernel)))).other W19 (Or.inr (slot_ne (Or.inr (own_w hw 27 rfl)) (Or.inr (own_w hw 25 rfl)) (by decide) (t := .long) (t' := .int) (by decide +kernel) (by decide +kernel))))
      have f23 := (f18.wr W19)
      obtain ⟨v25, hv25⟩ : ∃ z : Int64, z = (((-1 : Int64).toUInt64 >>> (((64 : Int32) - v20) &&& 0x3f).toInt64.toUInt64).toInt64) := ⟨_, rfl⟩
      rw [← hv25]
      refine own_putF (pc' := 115) X21 hx hZ hown (host := "") (Or.inl (own_w hw 26 rfl)) Via.refl e21 f22 f23 (Or.inr ⟨(own_w hw 27 rfl), rfl, hnm⟩) (own_w hw 2 rfl) (ty := .long) (by decide) rfl rfl (hb hby d1_112) rfl ?_
      intro T24 h24 X24 e24 W24
      have z24 : n0 ≤ h24.size := Nat.le_trans z19 (Keep.of_wr W24).1
      have Fw24 := f22.same W24
      have N24 := Fr.snoc X24 N19 g_a1
      have K24 : Keep h0 h24 [a1] := K19.wr W24 (Or.inl (List.mem_of_getElem? (i := 0) rfl))
      refine own_iconst (pc' := 116) X24 hx (5 : Int32) (hb hby d1_115) rfl rfl ?_
      refine own_newP (pc' := 118) (cap := 5) X24 hx hZ (own_w hw 28 rfl) e24 (hb hby d1_116) (by decide) (by decide) (by decide) (by decide) (by decide) rfl ?_
      intro T26 h26 k26 b26 g26 X26 e26 E26 A26
      have f27 := (f23.wr W24)
      have ne_a1_b26 : a1 ≠ b26 := Nat.ne_of_lt (Nat.lt_of_lt_of_le f27.lt (Nat.le_of_eq g26.symm))
      have ne_b26_a1 := ne_a1_b26.symm
      have g_b26 : n0 ≤ b26 := Nat.le_trans z24 (Nat.le_of_eq g26.symm)
      have sz_b26 : h0.size ≤ b26 := Nat.le_trans K24.1 (Nat.le_of_eq g26.symm)
      have z26 : n0 ≤ h26.size := Nat.le_trans z24 E26.1
      have K26 : Keep h0 h26 [a1] := K24.ext E26
      have V26 : Arv Z h26 b26 k26 .long (5 : Int32) [(.long (0 : Int64)), (.long (0 : Int64)), (.long (0 : Int64)), (.long (0 : Int64)), (.long (0 : Int64))] (.long (0 : Int64)) := (Arv.new A26 (by decide)).pad (pad_rep [] (.long (0 : Int64)) 5)
      refine own_astore (pc' := 120) (l' := #[.val (.ref a1), .val (.int st), .val (.int w), .val (.int p'), .val (.int n'), .val (.int v2), .val (.long v6), .second, .val (.long vS), .second, .val (.ref b26), .unset, .unset, .unset]) X26 hx (hb hby d1_118) rfl rfl rfl ?_
      refine own_iconst (pc' := 121) X26 hx (0 : Int32) (hb hby d1_120) rfl rfl ?_
      refine own_istore (pc' := 123) (l' := #[.val (.ref a1), .val (.int st), .val (.int w), .val (.int p'), .val (.int n'), .val (.int v2), .val (.long v6), .second, .val (.long vS), .second, .val (.ref b26), .val (.int (0 : Int32)), .unset, .unset]) X26 hx (hb hby d1_121) rfl rfl rfl ?_
      refine own_iload (pc' := 125) X26 hx (hb hby d1_123) rfl rfl ?_
      refine own_aloadN (pc' := 126) X26 hx (hb hby d1_125) rfl rfl rfl ?_
      have f28 := ((((((Fw5.other W9 (Or.inr (slot_ne (Or.inr (own_w hw 16 rfl)) (Or.inr (own_w hw 19 rfl)) (by decide) (t := .int) (t' := .int) (by decide +kernel) (by decide +kernel)))).other W12 (Or.inr (slot_ne (Or.inr (own_w hw 16 rfl)) (Or.inr (own_w hw 21 rfl)) (by decide) (t := .int) (t' := .long) (by decide +kernel) (by decide +kernel)))).other W15 (Or.inr (slot_ne (Or.inr (own_w hw 16 rfl)) (Or.inr (own_w hw 23 rfl)) (by decide) (t := .int) (t' := .long) (by decide +kernel) (by decide +kernel)))).other W19 (Or.inr (slot_ne (Or.inr (own_w hw 16 rfl)) (Or.inr (own_w hw 25 rfl)) (by decide) (t := .int) (t' := .int) (by decide +kernel) (by decide +kernel)))).other W24 (Or.inr (slot_ne (Or.inr (own_w hw 16 rfl)) (Or.inr (own_w hw 27 rfl)) (by decide) (t := .int) (t' := .long) (by decide +kernel) (by decide +kernel)))).ext E26)
      refine own_getF (pc' := 129) X26 hx hZ hown (host := "") (Or.inl (own_w hw 15 rfl)) Via.refl e26 f28 (hb hby d1_126) rfl ?_
      intro T29 X29 e29
      refine own_icmp_ge (pt := 196) (pf := 132) X29 hx (hb hby d1_129) rfl (by decide) rfl (fun hc129 => ?_) (fun hc129 => absurd hc129 (by decide))
      refine own_aloadN (pc' := 197) X29 hx (hb hby d1_196) rfl rfl rfl ?_
      refine own_aload (pc' := 199) X29 hx (hb hby d1_197) rfl rfl rfl ?_
      refine own_iconst (pc' := 200) X29 hx (0 : Int32) (hb hby d1_199) rfl rfl ?_
      refine own_laload (pc' := 201) (v := (.long (0 : Int64))) X29 hx hZ e29 V26 ⟨by decide, by decide⟩ rfl (hb hby d1_200) rfl ?_
      have f30 := (((((((F_moving0.other W5 (Or.inr (slot_ne (Or.inr (own_w hw 30 rfl)) (Or.inr (own_w hw 16 rfl)) (by decide) (t := .long) (t' := .int) (by decide +kernel) (by decide +kernel)))).other W9 (Or.inr (slot_ne (Or.inr (own_w hw 30 rfl)) (Or.inr (own_w hw 19 rfl)) (by decide) (t := .long) (t' := .int) (by decide +kernel) (by decide +kernel)))).other W12 (Or.inr (slot_ne (Or.inr (own_w hw 30 rfl)) (Or.inr (own_w hw 21 rfl)) (by decide) (t := .long) (t' := .long) (by decide +kernel) (by decide +kernel)))).other W15 (Or.inr (slot_ne (Or.inr (own_w hw 30 rfl)) (Or.inr (own_w hw 23 rfl)) (by decide) (t := .long) (t' := .long) (by decide +kernel) (by decide +kernel)))).other W19 (Or.inr (slot_ne (Or.inr (own_w hw 30 rfl)) (Or.inr (own_w hw 25 rfl)) (by decide) (t := .long) (t' := .int) (by decide +kernel) (by decide +kernel)))).other W24 (Or.inr (slot_ne (Or.inr (own_w hw 30 rfl)) (Or.inr (own_w hw 27 rfl)) (by decide) (t := .long) (t' := .long) (by decide +kernel) (by decide +kernel)))).ext E26)
      have f31 := (f27.ext E26)
      refine own_putF (pc' := 204) X29 hx hZ hown (host := "") (Or.inl (own_w hw 29 rfl)) Via.refl e29 f30 f31 (Or.inr ⟨(own_w hw 30 rfl), rfl, hnm⟩) (own_w hw 2 rfl) (ty := .long) (by decide) rfl rfl (hb hby d1_201) rfl ?_
      intro T32 h32 X32 e32 W32
      have z32 : n0 ≤ h32.size := Nat.le_trans z26 (Keep.of_wr W32).1
      have Fw32 := f30.same W32
      have N32 := Fr.snoc X32 N24 g_a1
      have K32 : Keep h0 h32 [a1] := K26.wr W32 (Or.inl (List.mem_of_getElem? (i := 0) rfl))
      refine own_aloadN (pc' := 205) X32 hx (hb hby d1_204) rfl rfl rfl ?_
      refine own_aload (pc' := 207) X32 hx (hb hby d1_205) rfl rfl rfl ?_
      refine own_iconst (pc' := 208) X32 hx (1 : Int32) (hb hby d1_207) rfl rfl ?_
      have f33 := (V26.other W32 ne_b26_a1)
      refine own_laload (pc' := 209) (v := (.long (0 : Int64))) X32 hx hZ e32 f33 ⟨by decide, by decide⟩ rfl (hb hby d1_208) rfl ?_
      have f34 := ((((((((F_moving1.other W5 (Or.inr (slot_ne (Or.inr (own_w hw 32 rfl)) (Or.inr (own_w hw 16 rfl)) (by decide) (t := .long) (t' := .int) (by decide +kernel) (by decide +kernel)))).other W9 (Or.inr (slot_ne (Or.inr (own_w hw 32 rfl)) (Or.inr (own_w hw 19 rfl)) (by decide) (t := .long) (t' := .int) (by decide +kernel) (by decide +kernel)))).other W12 (Or.inr (slot_ne (Or.inr (own_w hw 32 rfl)) (Or.inr (own_w hw 21 rfl)) (by decide) (t := .long) (t' := .long) (by decide +kernel) (by decide +kernel)))).other W15 (Or.inr (slot_ne (Or.inr (own_w hw 32 rfl)) (Or.inr (own_w hw 23 rfl)) (by decide) (t := .long) (t' := .long) (by decide +kernel) (by decide +kernel)))).other W19 (Or.inr (slot_ne (Or.inr (own_w hw 32 rfl)) (Or.inr (own_w hw 25 rfl)) (by decide) (t := .long) (t' := .int) (by decide +kernel) (by decide +kernel)))).other W24 (Or.inr (slot_ne (Or.inr (own_w hw 32 rfl)) (Or.inr (own_w hw 27 rfl)) (by decide) (t := .long) (t' := .long) (by decide +kernel) (by decide +kernel)))).ext E26).other W32 (Or.inr (slot_ne (Or.inr (own_w hw 32 rfl)) (Or.inr (own_w hw 30 rfl)) (by decide) (t := .long) (t' := .long) (by decide +kernel) (by decide +kernel))))
      have f35 := (f31.wr W32)
      refine own_putF (pc' := 212) X32 hx hZ hown (host := "") (Or.inl (own_w hw 31 rfl)) Via.refl e32 f34 f35 (Or.inr ⟨(own_w hw 32 rfl), rfl, hnm⟩) (own_w hw 2 rfl) (ty := .long) (by decide) rfl rfl (hb hby d1_209) rfl ?_
      intro T36 h36 X36 e36 W36
      have z36 : n0 ≤ h36.size := Nat.le_trans z32 (Keep.of_wr W36).1
      have Fw36 := f34.same W36
      have N36 := Fr.snoc X36 N32 g_a1
      have K36 : Keep h0 h36 [a1] := K32.wr W36 (Or.inl (List.mem_of_getElem? (i := 0) rfl))
      refine own_aloadN (pc' := 213) X36 hx (hb hby d1_212) rfl rfl rfl ?_
      refine own_aload (pc' := 215) X36 hx (hb hby d1_213) rfl rfl rfl ?_
      refine own_iconst (pc' := 216) X36 hx (2 : Int32) (hb hby d1_215) rfl rfl ?_
      have f37 := (f33.other W36 ne_b26_a1)
      refine own_laload (pc' := 217) (v := (.long (0 : Int64))) X36 hx hZ e36 f37 ⟨by decide, by decide⟩ rfl (hb hby d1_216) rfl ?_
      have f38 := (((((((((F_moving2.other W5 (Or.inr (slot_ne (Or.inr (own_w hw 34 rfl)) (Or.inr (own_w hw 16 rfl)) (by decide) (t := .long) (t' := .int) (by decide +kernel) (by decide +kernel)))).other W9 (Or.inr (slot_ne (Or.inr (own_w hw 34 rfl)) (Or.inr (own_w hw 19 rfl)) (by decide) (t := .long) (t' := .int) (by decide +kernel) (by decide +kernel)))).other W12 (Or.inr (slot_ne (Or.inr (own_w hw 34 rfl)) (Or.inr (own_w hw 21 rfl)) (by decide) (t := .long) (t' := .long) (by decide +kernel) (by decide +kernel)))).other W15 (Or.inr (slot_ne (Or.inr (own_w hw 34 rfl)) (Or.inr (own_w hw 23 rfl)) (by decide) (t := .long) (t' := .long) (by decide +kernel) (by decide +kernel)))).other W19 (Or.inr (slot_ne (Or.inr (own_w hw 34 rfl)) (Or.inr (own_w hw 25 rfl)) (by decide) (t := .long) (t' := .int) (by decide +kernel) (by decide +kernel)))).other W24 (Or.inr (slot_ne (Or.inr (own_w hw 34 rfl)) (Or.inr (own_w hw 27 rfl)) (by decide) (t := .long) (t' := .long) (by decide +kernel) (by decide +kernel)))).ext E26).other W32 (Or.inr (slot_ne (Or.inr (own_w hw 34 rfl)) (Or.inr (own_w hw 30 rfl)) (by decide) (t := .long) (t' := .long) (by decide +kernel) (by decide +kernel)))).other W36 (Or.inr (slot_ne (Or.inr (own_w hw 34 rfl)) (Or.inr (own_w hw 32 rfl)) (by decide) (t := .long) (t' := .long) (by decide +kernel) (by decide +kernel))))
      have f39 := (f35.wr W36)
      refine own_putF (pc' := 220) X36 hx hZ hown (host := "") (Or.inl (own_w hw 33 rfl)) Via.refl e36 f38 f39 (Or.inr ⟨(own_w hw 34 rfl), rfl, hnm⟩) (own_w hw 2 rfl) (ty := .long) (by decide) rfl rfl (hb hby d1_217) rfl ?_
      intro T40 h40 X40 e40 W40
      have z40 : n0 ≤ h40.size := Nat.le_trans z36 (Keep.of_wr W40).1
      have Fw40 := f38.same W40
      have N40 := Fr.snoc X40 N36 g_a1
      have K40 : Keep h0 h40 [a1] := K36.wr W40 (Or.inl (List.mem_of_getElem? (i := 0) rfl))
      refine own_aloadN (pc' := 221) X40 hx (hb hby d1_220) rfl rfl rfl ?_
      refine own_aload (pc' := 223) X40 hx (hb hby d1_221) rfl rfl rfl ?_
      refine own_iconst (pc' := 224) X40 hx (3 : Int32) (hb hby d1_223) rfl rfl ?_
      have f41 := (f37.other W40 ne_b26_a1)
      refine own_laload (pc' := 225) (v := (.long (0 : Int64))) X40 hx hZ e40 f41 ⟨by decide, by decide⟩ rfl (hb hby d1_224) rfl ?_
      have f42 := ((((((((((F_moving3.other W5 (Or.inr (slot_ne (Or.inr (own_w hw 36 rfl)) (Or.inr (own_w hw 16 rfl)) (by decide) (t := .long) (t' := .int) (by decide +kernel) (by decide +kernel)))).other W9 (Or.inr (slot_ne (Or.inr (own_w hw 36 rfl)) (Or.inr (own_w hw 19 rfl)) (by decide) (t := .long) (t' := .int) (by decide +kernel) (by decide +kernel)))).other W12 (Or.inr (slot_ne (Or.inr (own_w hw 36 rfl)) (Or.inr (own_w hw 21 rfl)) (by decide) (t := .long) (t' := .long) (by decide +kernel) (by decide +kernel)))).other W15 (Or.inr (slot_ne (Or.inr (own_w hw 36 rfl)) (Or.inr (own_w hw 23 rfl)) (by decide) (t := .long) (t' := .long) (by decide +kernel) (by decide +kernel)))).other W19 (Or.inr (slot_ne (Or.inr (own_w hw 36 rfl)) (Or.inr (own_w hw 25 rfl)) (by decide) (t := .long) (t' := .int) (by decide +kernel) (by decide +kernel)))).other W24 (Or.inr (slot_ne (Or.inr (own_w hw 36 rfl)) (Or.inr (own_w hw 27 rfl)) (by decide) (t := .long) (t' := .long) (by decide +kernel) (by decide +kernel)))).ext E26).other W32 (Or.inr (slot_ne (Or.inr (own_w hw 36 rfl)) (Or.inr (own_w hw 30 rfl)) (by decide) (t := .long) (t' := .long) (by decide +kernel) (by decide +kernel)))).other W36 (Or.inr (slot_ne (Or.inr (own_w hw 36 rfl)) (Or.inr (own_w hw 32 rfl)) (by decide) (t := .long) (t' := .long) (by decide +kernel) (by decide +kernel)))).other W40 (Or.inr (slot_ne (Or.inr (own_w hw 36 rfl)) (Or.inr (own_w hw 34 rfl)) (by decide) (t := .long) (t' := .long) (by decide +kernel) (by decide +kernel))))
      have f43 := (f39.wr W40)
      refine own_putF (pc' := 228) X40 hx hZ hown (host := "") (Or.inl (own_w hw 35 rfl)) Via.refl e40 f42 f43 (Or.inr ⟨(own_w hw 36 rfl), rfl, hnm⟩) (own_w hw 2 rfl) (ty := .long) (by decide) rfl rfl (hb hby d1_225) rfl ?_
      intro T44 h44 X44 e44 W44
      have z44 : n0 ≤ h44.size := Nat.le_trans z40 (Keep.of_wr W44).1
      have Fw44 := f42.same W44
      have N44 := Fr.snoc X44 N40 g_a1
      have K44 : Keep h0 h44 [a1] := K40.wr W44 (Or.inl (List.mem_of_getElem? (i := 0) rfl))
      refine own_aloadN (pc' := 229) X44 hx (hb hby d1_228) rfl rfl rfl ?_
      refine own_aload (pc' := 231) X44 hx (hb hby d1_229) rfl rfl rfl ?_
      refine own_iconst (pc' := 232) X44 hx (4 : Int32) (hb hby d1_231) rfl rfl ?_
      have f45 := (f41.other W44 ne_b26_a1)
      refine own_laload (pc' := 233) (v := (.long (0 : Int64))) X44 hx hZ e44 f45 ⟨by decide, by decide⟩ rfl (hb hby d1_232) rfl ?_
      have f46 := (((((((((((F_moving4.other W5 (Or.inr (slot_ne (Or.inr (own_w hw 38 rfl)) (Or.inr (own_w hw 16 rfl)) (by decide) (t := .long) (t' := .int) (by decide +kernel) (by decide +kernel)))).other W9 (Or.inr (slot_ne (Or.inr (own_w hw 38 rfl)) (Or.inr (own_w hw 19 rfl)) (by decide) (t := .long) (t' := .int) (by decide +kernel) (by decide +kernel)))).other W12 (Or.inr (slot_ne (Or.inr (own_w hw 38 rfl)) (Or.inr (own_w hw 21 rfl)) (by decide) (t := .long) (t' := .long) (by decide +kernel) (by decide +kernel)))).other W15 (Or.inr (slot_ne (Or.inr (own_w hw 38 rfl)) (Or.inr (own_w hw 23 rfl)) (by decide) (t := .long) (t' := .long) (by decide +kernel) (by decide +kernel)))).other W19 (Or.inr (slot_ne (Or.inr (own_w hw 38 rfl)) (Or.inr (own_w hw 25 rfl)) (by decide) (t := .long) (t' := .int) (by decide +kernel) (by decide +kernel)))).other W24 (Or.inr (slot_ne (Or.inr (own_w hw 38 rfl)) (Or.inr (own_w hw 27 rfl)) (by decide) (t := .long) (t' := .long) (by decide +kernel) (by decide +kernel)))).ext E26).other W32 (Or.inr (slot_ne (Or.inr (own_w hw 38 rfl)) (Or.inr (own_w hw 30 rfl)) (by decide) (t := .long) (t' := .long) (by decide +kernel) (by decide +kernel)))).other W36 (Or.inr (slot_ne (Or.inr (own_w hw 38 rfl)) (Or.inr (own_w hw 32 rfl)) (by decide) (t := .long) (t' := .long) (by decide +kernel) (by decide +kernel)))).other W40 (Or.inr (slot_ne (Or.inr (own_w hw 38 rfl)) (Or.inr (own_w hw 34 rfl)) (by decide) (t := .long) (t' := .long) (by decide +kernel) (by decide +kernel)))).other W44 (Or.inr (slot_ne (Or.inr (own_w hw 38 rfl)) (Or.inr (own_w hw 36 rfl)) (by decide) (t := .long) (t' := .long) (by decide +kernel) (by decide +kernel))))
      have f47 := (f43.wr W44)
      refine own_putF (pc' := 236) X44 hx hZ hown (host := "") (Or.inl (own_w hw 37 rfl)) Via.refl e44 f46 f47 (Or.inr ⟨(own_w hw 38 rfl), rfl, hnm⟩) (own_w hw 2 rfl) (ty := .long) (by decide) rfl rfl (hb hby d1_233) rfl ?_
      intro T48 h48 X48 e48 W48
      have z48 : n0 ≤ h48.size := Nat.le_trans z44 (Keep.of_wr W48).1
      have Fw48 := f46.same W48
      have N48 := Fr.snoc X48 N44 g_a1
      have K48 : Keep h0 h48 [a1] := K44.wr W48 (Or.inl (List.mem_of_getElem? (i := 0) rfl))
      refine own_aloadN (pc' := 237) X48 hx (hb hby d1_236) rfl rfl rfl ?_
      refine own_iload (pc' := 239) X48 hx (hb hby d1_237) rfl rfl ?_
      have f49 := ((((((((((((F_distance0.other W5 (Or.inr (slot_ne (Or.inr (own_w hw 40 rfl)) (Or.inr (own_w hw 16 rfl)) (by decide) (t := .int) (t' := .int) (by decide +kernel) (by decide +kernel)))).other W9 (Or.inr (slot_ne (Or.inr (own_w hw 40 rfl)) (Or.inr (own_w hw 19 rfl)) (by decide) (t := .int) (t' := .int) (by decide +kernel) (by decide +kernel)))).other W12 (Or.inr (slot_ne (Or.inr (own_w hw 40 rfl)) (Or.inr (own_w hw 21 rfl)) (by decide) (t := .int) (t' := .long) (by decide +kernel) (by decide +kernel)))).other W15 (Or.inr (slot_ne (Or.inr (own_w hw 40 rfl)) (Or.inr (own_w hw 23 rfl)) (by decide) (t := .int) (t' := .long) (by decide +kernel) (by decide +kernel)))).other W19 (Or.inr (slot_ne (Or.inr (own_w hw 40 rfl)) (Or.inr (own_w hw 25 rfl)) (by decide) (t := .int) (t' := .int) (by decide +kernel) (by decide +kernel)))).other W24 (Or.inr (slot_ne (Or.inr (own_w hw 40 rfl)) (Or.inr (own_w hw 27 rfl)) (by decide) (t := .int) (t' := .long) (by decide +kernel) (by decide +kernel)))).ext E26).other W32 (Or.inr (slot_ne (Or.inr (own_w hw 40 rfl)) (Or.inr (own_w hw 30 rfl)) (by decide) (t := .int) (t' := .long) (by decide +kernel) (by decide +kernel)))).other W36 (Or.inr (slot_ne (Or.inr (own_w hw 40 rfl)) (Or.inr (own_w hw 32 rfl)) (by decide) (t := .int) (t' := .long) (by decide +kernel) (by decide +kernel)))).other W40 (Or.inr (slot_ne (Or.inr (own_w hw 40 rfl)) (Or.inr (own_w hw 34 rfl)) (by decide) (t := .int) (t' := .long) (by decide +kernel) (by decide +kernel)))).other W44 (Or.inr (slot_ne (Or.inr (own_w hw 40 rfl)) (Or.inr (own_w hw 36 rfl)) (by decide) (t := .int) (t' := .long) (by decide +kernel) (by decide +kernel)))).other W48 (Or.inr (slot_ne (Or.inr (own_w hw 40 rfl)) (Or.inr (own_w hw 38 rfl)) (by decide) (t := .int) (t' := .long) (by decide +kernel) (by decide +kernel))))
      have f50 := (f47.wr W48)
      refine own_putF (pc' := 242) X48 hx hZ hown (host := "") (Or.inl (own_w hw 39 rfl)) Via.refl e48 f49 f50 (Or.inr ⟨(own_w hw 40 rfl), rfl, hnm⟩) (own_w hw 2 rfl) (ty := .int) (by decide) rfl rfl (hb hby d1_239) rfl ?_
      intro T51 h51 X51 e51 W51
      have z51 : n0 ≤ h51.size := Nat.le_trans z48 (Keep.of_wr W51).1
      have Fw51 := f49.same W51
      have N51 := Fr.snoc X51 N48 g_a1
      have K51 : Keep h0 h51 [a1] := K48.wr W51 (Or.inl (List.mem_of_getElem? (i := 0) rfl))
      refine own_aloadN (pc' := 243) X51 hx (hb hby d1_242) rfl rfl rfl ?_
      refine own_iload (pc' := 245) X51 hx (hb hby d1_243) rfl rfl ?_
      refine own_iconst (pc' := 246) X51 hx (1 : Int32) (hb hby d1_245) rfl rfl ?_
      refine own_ishl (pc' := 247) X51 hx (hb hby d1_246) rfl ?_
      have f52 := (((((((((((((F_distance1.other W5 (Or.inr (slot_ne (Or.inr (own_w hw 42 rfl)) (Or.inr (own_w hw 16 rfl)) (by decide) (t := .int) (t' := .int) (by decide +kernel) (by decide +kernel)))).other W9 (Or.inr (slot_ne (Or.inr (own_w hw 42 rfl)) (Or.inr (own_w hw 19 rfl)) (by decide) (t := .int) (t' := .int) (by decide +kernel) (by decide +kernel)))).other W12 (Or.inr (slot_ne (Or.inr (own_w hw 42 rfl)) (Or.inr (own_w hw 21 rfl)) (by decide) (t := .int) (t' := .long) (by decide +kernel) (by decide +kernel)))).other W15 (Or.inr (slot_ne (Or.inr (own_w hw 42 rfl)) (Or.inr (own_w hw 23 rfl)) (by decide) (t := .int) (t' := .long) (by decide +kernel) (by decide +kernel)))).other W19 (Or.inr (slot_ne (Or.inr (own_w hw 42 rfl)) (Or.inr (own_w hw 25 rfl)) (by decide) (t := .int) (t' := .int) (by decide +kernel) (by decide +kernel)))).other W24 (Or.inr (slot_ne (Or.inr (own_w hw 42 rfl)) (Or.inr (own_w hw 27 rfl)) (by decide) (t := .int) (t' := .long) (by decide +kernel) (by decide +kernel)))).ext E26).other W32 (Or.inr (slot_ne (Or.inr (own_w hw 42 rfl)) (Or.inr (own_w hw 30 rfl)) (by decide) (t := .int) (t' := .long) (by decide +kernel) (by decide +kernel)))).other W36 (Or.inr (slot_ne (Or.inr (own_w hw 42 rfl)) (Or.inr (own_w hw 32 rfl)) (by decide) (t := .int) (t' := .long) (by decide +kernel) (by decide +kernel)))).other W40 (Or.inr (slot_ne (Or.inr (own_w hw 42 rfl)) (Or.inr (own_w hw 34 rfl)) (by decide) (t := .int) (t' := .long) (by decide +kernel) (by decide +kernel)))).other W44 (Or.inr (slot_ne (Or.inr (own_w hw 42 rfl)) (Or.inr (own_w hw 36 rfl)) (by decide) (t := .int) (t' := .long) (by decide +kernel) (by decide +kernel)))).other W48 (Or.inr (slot_ne (Or.inr (own_w hw 42 rfl)) (Or.inr (own_w hw 38 rfl)) (by decide) (t := .int) (t' := .long) (by decide +kernel) (by decide +kernel)))).other W51 (Or.inr (slot_ne (Or.inr (own_w hw 42 rfl)) (Or.inr (own_w hw 40 rfl)) (by decide) (t := .int) (t' := .int) (by decide +kernel) (by decide +kernel))))
      have f53 := (f50.wr W51)
      obtain ⟨v55, hv55⟩ : ∃ z : Int32, z = (v2 <<< ((1 : Int32) &&& 31)) := ⟨_, rfl⟩
      rw [← hv55]
      refine own_putF (pc' := 250) X51 hx hZ hown (host := "") (Or.inl (own_w hw 41 rfl)) Via.refl e51 f52 f53 (Or.inr ⟨(own_w hw 42 rfl), rfl, hnm⟩) (own_w hw 2 rfl) (ty := .int) (by decide) rfl rfl (hb hby d1_247) rfl ?_
      intro T54 h54 X54 e54 W54
      have z54 : n0 ≤ h54.size := Nat.le_trans z51 (Keep.of_wr W54).1
      have Fw54 := f52.same W54
      have N54 := Fr.snoc X54 N51 g_a1
      have K54 : Keep h0 h54 [a1] := K51.wr W54 (Or.inl (List.mem_of_getElem? (i := 0) rfl))
      refine own_aloadN (pc' := 251) X54 hx (hb hby d1_250) rfl rfl rfl ?_
      refine own_iload (pc' := 253) X54 hx (hb hby d1_251) rfl rfl ?_
      refine own_iconst (pc' := 254) X54 hx (2 : Int32) (hb hby d1_253) rfl rfl ?_
      refine own_ishl (pc' := 255) X54 hx (hb hby d1_254) rfl ?_
      have f56 := ((((((((((((((F_distance2.other W5 (Or.inr (slot_ne (Or.inr (own_w hw 44 rfl)) (Or.inr (own_w hw 16 rfl)) (by decide) (t := .int) (t' := .int) (by decide +kernel) (by decide +kernel)))).other W9 (Or.inr (slot_ne (Or.inr (own_w hw 44 rfl)) (Or.inr (own_w hw 19 rfl)) (by decide) (t := .int) (t' := .int) (by decide +kernel) (by decide +kernel)))).other W12 (Or.inr (slot_ne (Or.inr (own_w hw 44 rfl)) (Or.inr (own_w hw 21 rfl)) (by decide) (t := .int) (t' := .long) (by decide +kernel) (by decide +kernel)))).other W15 (Or.inr (slot_ne (Or.inr (own_w hw 44 rfl)) (Or.inr (own_w hw 23 rfl)) (by decide) (t := .int) (t' := .long) (by decide +kernel) (by decide +kernel)))).other W19 (Or.inr (slot_ne (Or.inr (own_w hw 44 rfl)) (Or.inr (own_w hw 25 rfl)) (by decide) (t := .int) (t' := .int) (by decide +kernel) (by decide +kernel)))).other W24 (Or.inr (slot_ne (Or.inr (own_w hw 44 rfl)) (Or.inr (own_w hw 27 rfl)) (by decide) (t := .int) (t' := .long) (by decide +kernel) (by decide +kernel)))).ext E26).other W32 (Or.inr (slot_ne (Or.inr (own_w hw 44 rfl)) (Or.inr (own_w hw 30 rfl)) (by decide) (t := .int) (t' := .long) (by decide +kernel) (by decide +kernel)))).other W36 (Or.inr (slot_ne (Or.inr (own_w hw 44 rfl)) (Or.inr (own_w hw 32 rfl)) (by decide) (t := .int) (t' := .long) (by decide +kernel) (by decide +kernel)))).other W40 (Or.inr (slot_ne (Or.inr (own_w hw 44 rfl)) (Or.inr (own_w hw 34 rfl)) (by decide) (t := .int) (t' := .long) (by decide +kernel) (by decide +kernel)))).other W44 (Or.inr (slot_ne (Or.inr (own_w hw 44 rfl)) (Or.inr (own_w hw 36 rfl)) (by decide) (t := .int) (t' := .long) (by decide +kernel) (by decide +kernel)))).other W48 (Or.inr (slot_ne (Or.inr (own_w hw 44 rfl)) (Or.inr (own_w hw 38 rfl)) (by decide) (t := .int) (t' := .long) (by decide +kernel) (by decide +kernel)))).other W51 (Or.inr (slot_ne (Or.inr (own_w hw 44 rfl)) (Or.inr (own_w hw 40 rfl)) (by decide) (t := .int) (t' := .int) (by decide +kernel) (by decide +kernel)))).other W54 (Or.inr (slot_ne (Or.inr (own_w hw 44 rfl)) (Or.inr (own_w hw 42 rfl)) (by decide) (t := .int) (t' := .int) (by decide +kernel) (by decide +kernel))))
      have f57 := (f53.wr W54)
      obtain ⟨v59, hv59⟩ : ∃ z : Int32, z = (v2 <<< ((2 : Int32) &&& 31)) := ⟨_, rfl⟩
      rw [← hv59]
      refine own_putF (pc' := 258) X54 hx hZ hown (host := "") (Or.inl (own_w hw 43 rfl)) Via.refl e54 f56 f57 (Or.inr ⟨(own_w hw 44 rfl), rfl, hnm⟩) (own_w hw 2 rfl) (ty := .int) (by decide) rfl rfl (hb hby d1_255) rfl ?_
      intro T58 h58 X58 e58 W58
      have z58 : n0 ≤ h58.size := Nat.le_trans z54 (Keep.of_wr W58).1
      have Fw58 := f56.same W58
      have N58 := Fr.snoc X58 N54 g_a1
      have K58 : Keep h0 h58 [a1] := K54.wr W58 (Or.inl (List.mem_of_getElem? (i := 0) rfl))
      refine own_aloadN (pc' := 259) X58 hx (hb hby d1_258) rfl rfl rfl ?_
      refine own_iload (pc' := 261) X58 hx (hb hby d1_259) rfl rfl ?_
      refine own_iconst (pc' := 262) X58 hx (3 : Int32) (hb hby d1_261) rfl rfl ?_
      refine own_ishl (pc' := 263) X58 hx (hb hby d1_262) rfl ?_
      have f60 := (((((((((((((((F_distance3.other W5 (Or.inr (slot_ne (Or.inr (own_w hw 46 rfl)) (Or.inr (own_w hw 16 rfl)) (by decide) (t := .int) (t' := .int) (by decide +kernel) (by decide +kernel)))).other W9 (Or.inr (slot_ne (Or.inr (own_w hw 46 rfl)) (Or.inr (own_w hw 19 rfl)) (by decide) (t := .int) (t' := .int) (by decide +kernel) (by decide +kernel)))).other W12 (Or.inr (slot_ne (Or.inr (own_w hw 46 rfl)) (Or.inr (own_w hw 21 rfl)) (by decide) (t := .int) (t' := .long) (by decide +kernel) (by decide +kernel)))).other W15 (Or.inr (slot_ne (Or.inr (own_w hw 46 rfl)) (Or.inr (own_w hw 23 rfl)) (by decide) (t := .int) (t' := .long) (by decide +kernel) (by decide +kernel)))).other W19 (Or.inr (slot_ne (Or.inr (own_w hw 46 rfl)) (Or.inr (own_w hw 25 rfl)) (by decide) (t := .int) (t' := .int) (by decide +kernel) (by decide +kernel)))).other W24 (Or.inr (slot_ne (Or.inr (own_w hw 46 rfl)) (Or.inr (own_w hw 27 rfl)) (by decide) (t := .int) (t' := .long) (by decide +kernel) (by decide +kernel)))).ext E26).other W32 (Or.inr (slot_ne (Or.inr (own_w hw 46 rfl)) (Or.inr (own_w hw 30 rfl)) (by decide) (t := .int) (t' := .long) (by decide +kernel) (by decide +kernel)))).other W36 (Or.inr (slot_ne (Or.inr (own_w hw 46 rfl)) (Or.inr (own_w hw 32 rfl)) (by decide) (t := .int) (t' := .long) (by decide +kernel) (by decide +kernel)))).other W40 (Or.inr (slot_ne (Or.inr (own_w hw 46 rfl)) (Or.inr (own_w hw 34 rfl)) (by decide) (t := .int) (t' := .long) (by decide +kernel) (by decide +kernel)))).other W44 (Or.inr (slot_ne (Or.inr (own_w hw 46 rfl)) (Or.inr (own_w hw 36 rfl)) (by decide) (t := .int) (t' := .long) (by decide +kernel) (by decide +kernel)))).other W48 (Or.inr (slot_ne (Or.inr (own_w hw 46 rfl)) (Or.inr (own_w hw 38 rfl)) (by decide) (t := .int) (t' := .long) (by decide +kernel) (by decide +kernel)))).other W51 (Or.inr (slot_ne (Or.inr (own_w hw 46 rfl)) (Or.inr (own_w hw 40 rfl)) (by decide) (t := .int) (t' := .int) (by decide +kernel) (by decide +kernel)))).other W54 (Or.inr (slot_ne (Or.inr (own_w hw 46 rfl)) (Or.inr (own_w hw 42 rfl)) (by decide) (t := .int) (t' := .int) (by decide +kernel) (by decide +kernel)))).other W58 (Or.inr (slot_ne (Or.inr (own_w hw 46 rfl)) (Or.inr (own_w hw 44 rfl)) (by decide) (t := .int) (t' := .int) (by decide +kernel) (by decide +kernel))))
      have f61 := (f57.wr W58)
      obtain ⟨v63, hv63⟩ : ∃ z : Int32, z = (v2 <<< ((3 : Int32) &&& 31)) := ⟨_, rfl⟩
      rw [← hv63]
      refine own_putF (pc' := 266) X58 hx hZ hown (host := "") (Or.inl (own_w hw 45 rfl)) Via.refl e58 f60 f61 (Or.inr ⟨(own_w hw 46 rfl), rfl, hnm⟩) (own_w hw 2 rfl) (ty := .int) (by decide) rfl rfl (hb hby d1_263) rfl ?_
      intro T62 h62 X62 e62 W62
      have z62 : n0 ≤ h62.size := Nat.le_trans z58 (Keep.of_wr W62).1
      have Fw62 := f60.same W62
      have N62 := Fr.snoc X62 N58 g_a1
      have K62 : Keep h0 h62 [a1] := K58.wr W62 (Or.inl (List.mem_of_getElem? (i := 0) rfl))
      refine own_aloadN (pc' := 267) X62 hx (hb hby d1_266) rfl rfl rfl ?_
      refine own_iload (pc' := 269) X62 hx (hb hby d1_267) rfl rfl ?_
      refine own_iconst (pc' := 270) X62 hx (4 : Int32) (hb hby d1_269) rfl rfl ?_
      refine own_ishl (pc' := 271) X62 hx (hb hby d1_270) rfl ?_
      have f64 := ((((((((((((((((F_distance4.other W5 (Or.inr (slot_ne (Or.inr (own_w hw 48 rfl)) (Or.inr (own_w hw 16 rfl)) (by decide) (t := .int) (t' := .int) (by decide +kernel) (by decide +kernel)))).other W9 (Or.inr (slot_ne (Or.inr (own_w hw 48 rfl)) (Or.inr (own_w hw 19 rfl)) (by decide) (t := .int) (t' := .int) (by decide +kernel) (by decide +kernel)))).other W12 (Or.inr (slot_ne (Or.inr (own_w hw 48 rfl)) (Or.inr (own_w hw 21 rfl)) (by decide) (t := .int) (t' := .long) (by decide +kernel) (by decide +kernel)))).other W15 (Or.inr (slot_ne (Or.inr (own_w hw 48 rfl)) (Or.inr (own_w hw 23 rfl)) (by decide) (t := .int) (t' := .long) (by decide +kernel) (by decide +kernel)))).other W19 (Or.inr (slot_ne (Or.inr (own_w hw 48 rfl)) (Or.inr (own_w hw 25 rfl)) (by decide) (t := .int) (t' := .int) (by decide +kernel) (by decide +kernel)))).other W24 (Or.inr (slot_ne (Or.inr (own_w hw 48 rfl)) (Or.inr (own_w hw 27 rfl)) (by decide) (t := .int) (t' := .long) (by decide +kernel) (by decide +kernel)))).ext E26).other W32 (Or.inr (slot_ne (Or.inr (own_w hw 48 rfl)) (Or.inr (own_w hw 30 rfl)) (by decide) (t := .int) (t' := .long) (by decide +kernel) (by decide +kernel)))).other W36 (Or.inr (slot_ne (Or.inr (own_w hw 48 rfl)) (Or.inr (own_w hw 32 rfl)) (by decide) (t := .int) (t' := .long) (by decide +kernel) (by decide +kernel)))).other W40 (Or.inr (slot_ne (Or.inr (own_w hw 48 rfl)) (Or.inr (own_w hw 34 rfl)) (by decide) (t := .int) (t' := .long) (by decide +kernel) (by decide +kernel)))).other W44 (Or.inr (slot_ne (Or.inr (own_w hw 48 rfl)) (Or.inr (own_w hw 36 rfl)) (by decide) (t := .int) (t' := .long) (by decide +kernel) (by decide +kernel)))).other W48 (Or.inr (slot_ne (Or.inr (own_w hw 48 rfl)) (Or.inr (own_w hw 38 rfl)) (by decide) (t := .int) (t' := .long) (by decide +kernel) (by decide +kernel)))).other W51 (Or.inr (slot_ne (Or.inr (own_w hw 48 rfl)) (Or.inr (own_w hw 40 rfl)) (by decide) (t := .int) (t' := .int) (by decide +kernel) (by decide +kernel)))).other W54 (Or.inr (slot_ne (Or.inr (own_w hw 48 rfl)) (Or.inr (own_w hw 42 rfl)) (by decide) (t := .int) (t' := .int) (by decide +kernel) (by decide +kernel)))).other W58 (Or.inr (slot_ne (Or.inr (own_w hw 48 rfl)) (Or.inr (own_w hw 44 rfl)) (by decide) (t := .int) (t' := .int) (by decide +kernel) (by decide +kernel)))).other W62 (Or.inr (slot_ne (Or.inr (own_w hw 48 rfl)) (Or.inr (own_w hw 46 rfl)) (by decide) (t := .int) (t' := .int) (by decide +kernel) (by decide +kernel))))
      have f65 := (f61.wr W62)
      obtain ⟨v67, hv67⟩ : ∃ z : Int32, z = (v2 <<< ((4 : Int32) &&& 31)) := ⟨_, rfl⟩
      rw [← hv67]
      refine own_putF (pc' := 274) X62 hx hZ hown (host := "") (Or.inl (own_w hw 47 rfl)) Via.refl e62 f64 f65 (Or.inr ⟨(own_w hw 48 rfl), rfl, hnm⟩) (own_w hw 2 rfl) (ty := .int) (by decide) rfl rfl (hb hby d1_271) rfl ?_
      intro T66 h66 X66 e66 W66
      have z66 : n0 ≤ h66.size := Nat.le_trans z62 (Keep.of_wr W66).1
      have Fw66 := f64.same W66
      have N66 := Fr.snoc X66 N62 g_a1
      have K66 : Keep h0 h66 [a1] := K62.wr W66 (Or.inl (List.mem_of_getElem? (i := 0) rfl))
      refine own_aloadN (pc' := 275) X66 hx (hb hby d1_274) rfl rfl rfl ?_
      refine own_aloadN (pc' := 276) X66 hx (hb hby d1_275) rfl rfl rfl ?_
      have f68 := (((((((((Fw32.other W36 (Or.inr (slot_ne (Or.inr (own_w hw 30 rfl)) (Or.inr (own_w hw 32 rfl)) (by decide) (t := .long) (t' := .long) (by decide +kernel) (by decide +kernel)))).other W40 (Or.inr (slot_ne (Or.inr (own_w hw 30 rfl)) (Or.inr (own_w hw 34 rfl)) (by decide) (t := .long) (t' := .long) (by decide +kernel) (by decide +kernel)))).other W44 (Or.inr (slot_ne (Or.inr (own_w hw 30 rfl)) (Or.inr (own_w hw 36 rfl)) (by decide) (t := .long) (t' := .long) (by decide +kernel) (by decide +kernel)))).other W48 (Or.inr (slot_ne (Or.inr (own_w hw 30 rfl)) (Or.inr (own_w hw 38 rfl)) (by decide) (t := .long) (t' := .long) (by decide +kernel) (by decide +kernel)))).other W51 (Or.inr (slot_ne (Or.inr (own_w hw 30 rfl)) (Or.inr (own_w hw 40 rfl)) (by decide) (t := .long) (t' := .int) (by decide +kernel) (by decide +kernel)))).other W54 (Or.inr (slot_ne (Or.inr (own_w hw 30 rfl)) (Or.inr (own_w hw 42 rfl)) (by decide) (t := .long) (t' := .int) (by decide +kernel) (by decide +kernel)))).other W58 (Or.inr (slot_ne (Or.inr (own_w hw 30 rfl)) (Or.inr (own_w hw 44 rfl)) (by decide) (t := .long) (t' := .int) (by decide +kernel) (by decide +kernel)))).other W62 (Or.inr (slot_ne (Or.inr (own_w hw 30 rfl)) (Or.inr (own_w hw 46 rfl)) (by decide) (t := .long) (t' := .int) (by decide +kernel) (by decide +kernel)))).other W66 (Or.inr (slot_ne (Or.inr (own_w hw 30 rfl)) (Or.inr (own_w hw 48 rfl)) (by decide) (t := .long) (t' := .int) (by decide +kernel) (by decide +kernel))))
      refine own_getF (pc' := 279) X66 hx hZ hown (host := "") (Or.inl (own_w hw 29 rfl)) Via.refl e66 f68 (hb hby d1_276) rfl ?_
      intro T69 X69 e69
      refine own_aloadN (pc' := 280) X69 hx (hb hby d1_279) rfl rfl rfl ?_
      have f70 := ((((Fw51.other W54 (Or.inr (slot_ne (Or.inr (own_w hw 40 rfl)) (Or.inr (own_w hw 42 rfl)) (by decide) (t := .int) (t' := .int) (by decide +kernel) (by decide +kernel)))).other W58 (Or.inr (slot_ne (Or.inr (own_w hw 40 rfl)) (Or.inr (own_w hw 44 rfl)) (by decide) (t := .int) (t' := .int) (by decide +kernel) (by decide +kernel)))).other W62 (Or.inr (slot_ne (Or.inr (own_w hw 40 rfl)) (Or.inr (own_w hw 46 rfl)) (by decide) (t := .int) (t' := .int) (by decide +kernel) (by decide +kernel)))).other W66 (Or.inr (slot_ne (Or.inr (own_w hw 40 rfl)) (Or.inr (own_w hw 48 rfl)) (by decide) (t := .int) (t' := .int) (by decide +kernel) (by decide +kernel))))
      refine own_getF (pc' := 283) X69 hx hZ hown (host := "") (Or.inl (own_w hw 39 rfl)) Via.refl e69 f70 (hb hby d1_280) rfl ?_
      intro T71 X71 e71
      refine own_lushr (pc' := 284) X71 hx (hb hby d1_283) rfl ?_
      have f72 := (((((((((((((((((F_moved0.other W5 (Or.inr (slot_ne (Or.inr (own_w hw 50 rfl)) (Or.inr (own_w hw 16 rfl)) (by decide) (t := .long) (t' := .int) (by decide +kernel) (by decide +kernel)))).other W9 (Or.inr (slot_ne (Or.inr (own_w hw 50 rfl)) (Or.inr (own_w hw 19 rfl)) (by decide) (t := .long) (t' := .int) (by decide +kernel) (by decide +kernel)))).other W12 (Or.inr (slot_ne (Or.inr (own_w hw 50 rfl)) (Or.inr (own_w hw 21 rfl)) (by decide) (t := .long) (t' := .long) (by decide +kernel) (by decide +kernel)))).other W15 (Or.inr (slot_ne (Or.inr (own_w hw 50 rfl)) (Or.inr (own_w hw 23 rfl)) (by decide) (t := .long) (t' := .long) (by decide +kernel) (by decide +kernel)))).other W19 (Or.inr (slot_ne (Or.inr (own_w hw 50 rfl)) (Or.inr (own_w hw 25 rfl)) (by decide) (t := .long) (t' := .int) (by decide +kernel) (by decide +kernel)))).other W24 (Or.inr (slot_ne (Or.inr (own_w hw 50 rfl)) (Or.inr (own_w hw 27 rfl)) (by decide) (t := .long) (t' := .long) (by decide +kernel) (by decide +kernel)))).ext E26).other W32 (Or.inr (slot_ne (Or.inr (own_w hw 50 rfl)) (Or.inr (own_w hw 30 rfl)) (by decide) (t := .long) (t' := .long) (by decide +kernel) (by decide +kernel)))).other W36 (Or.inr (slot_ne (Or.inr (own_w hw 50 rfl)) (Or.inr (own_w hw 32 rfl)) (by decide) (t := .long) (t' := .long) (by decide +kernel) (by decide +kernel)))).other W40 (Or.inr (slot_ne (Or.inr (own_w hw 50 rfl)) (Or.inr (own_w hw 34 rfl)) (by decide) (t := .long) (t' := .long) (by decide +kernel) (by decide +kernel)))).other W44 (Or.inr (slot_ne (Or.inr (own_w hw 50 rfl)) (Or.inr (own_w hw 36 rfl)) (by decide) (t := .long) (t' := .long) (by decide +kernel) (by decide +kernel)))).other W48 (Or.inr (slot_ne (Or.inr (own_w hw 50 rfl)) (Or.inr (own_w hw 38 rfl)) (by decide) (t := .long) (t' := .long) (by decide +kernel) (by decide +kernel)))).other W51 (Or.inr (slot_ne (Or.inr (own_w hw 50 rfl)) (Or.inr (own_w hw 40 rfl)) (by decide) (t := .long) (t' := .int) (by decide +kernel) (by decide +kernel)))).other W54 (Or.inr (slot_ne (Or.inr (own_w hw 50 rfl)) (Or.inr (own_w hw 42 rfl)) (by decide) (t := .long) (t' := .int) (by decide +kernel) (by decide +kernel)))).other W58 (Or.inr (slot_ne (Or.inr (own_w hw 50 rfl)) (Or.inr (own_w hw 44 rfl)) (by decide) (t := .long) (t' := .int) (by decide +kernel) (by decide +kernel)))).other W62 (Or.inr (slot_ne (Or.inr (own_w hw 50 rfl)) (Or.inr (own_w hw 46 rfl)) (by decide) (t := .long) (t' := .int) (by decide +kernel) (by decide +kernel)))).other W66 (Or.inr (slot_ne (Or.inr (own_w hw 50 rfl)) (Or.inr (own_w hw 48 rfl)) (by decide) (t := .long) (t' := .int) (by decide +kernel) (by decide +kernel))))
      have f73 := (f65.wr W66)
      obtain ⟨v75, hv75⟩ : ∃ z : Int64, z = (((0 : Int64).toUInt64 >>> (v2 &&& 0x3f).toInt64.toUInt64).toInt64) := ⟨_, rfl⟩
      rw [← hv75]
      refine own_putF (pc' := 287) X71 hx hZ hown (host := "") (Or.inl (own_w hw 49 rfl)) Via.refl e71 f72 f73 (Or.inr ⟨(own_w hw 50 rfl), rfl, hnm⟩) (own_w hw 2 rfl) (ty := .long) (by decide) rfl rfl (hb hby d1_284) rfl ?_
      intro T74 h74 X74 e74 W74
      have z74 : n0 ≤ h74.size := Nat.le_trans z66 (Keep.of_wr W74).1
      have Fw74 := f72.same W74
      have N74 := Fr.snoc X74 N66 g_a1
      have K74 : Keep h0 h74 [a1] := K66.wr W74 (Or.inl (List.mem_of_getElem? (i := 0) rfl))
      refine own_aloadN (pc' := 288) X74 hx (hb hby d1_287) rfl rfl rfl ?_
      refine own_aloadN (pc' := 289) X74 hx (hb hby d1_288) rfl rfl rfl ?_
      have f76 := (((((((((Fw36.other W40 (Or.inr (slot_ne (Or.inr (own_w hw 32 rfl)) (Or.inr (own_w hw 34 rfl)) (by decide) (t := .long) (t' := .long) (by decide +kernel) (by decide +kernel)))).other W44 (Or.inr (slot_ne (Or.inr (own_w hw 32 rfl)) (Or.inr (own_w hw 36 rfl)) (by decide) (t := .long) (t' := .long) (by decide +kernel) (by decide +kernel)))).other W48 (Or.inr (slot_ne (Or.inr (own_w hw 32 rfl)) (Or.inr (own_w hw 38 rfl)) (by decide) (t := .long) (t' := .long) (by decide +kernel) (by decide +kernel)))).other W51 (Or.inr (slot_ne (Or.inr (own_w hw 32 rfl)) (Or.inr (own_w hw 40 rfl)) (by decide) (t := .long) (t' := .int) (by decide +kernel) (by decide +kernel)))).other W54 (Or.inr (slot_ne (Or.inr (own_w hw 32 rfl)) (Or.inr (own_w hw 42 rfl)) (by decide) (t := .long) (t' := .int) (by decide +kernel) (by decide +kernel)))).other W58 (Or.inr (slot_ne (Or.inr (own_w hw 32 rfl)) (Or.inr (own_w hw 44 rfl)) (by decide) (t := .long) (t' := .int) (by decide +kernel) (by decide +kernel)))).other W62 (Or.inr (slot_ne (Or.inr (own_w hw 32 rfl)) (Or.inr (own_w hw 46 rfl)) (by decide) (t := .long) (t' := .int) (by decide +kernel) (by decide +kernel)))).other W66 (Or.inr (slot_ne (Or.inr (own_w hw 32 rfl)) (Or.inr (own_w hw 48 rfl)) (by decide) (t := .long) (t' := .int) (by decide +kernel) (by decide +kernel)))).other W74 (Or.inr (slot_ne (Or.inr (own_w hw 32 rfl)) (Or.inr (own_w hw 50 rfl)) (by decide) (t := .long) (t' := .long) (by decide +kernel) (by decide +kernel))))
      refine own_getF (pc' := 292) X74 hx hZ hown (host := "") (Or.inl (own_w hw 31 rfl)) Via.refl e74 f76 (hb hby d1_289) rfl ?_
      intro T77 X77 e77
      refine own_aloadN (pc' := 293) X77 hx (hb hby d1_292) rfl rfl rfl ?_
      have f78 := ((((Fw54.other W58 (Or.inr (slot_ne (Or.inr (own_w hw 42 rfl)) (Or.inr (own_w hw 44 rfl)) (by decide) (t := .int) (t' := .int) (by decide +kernel) (by decide +kernel)))).other W62 (Or.inr (slot_ne (Or.inr (own_w hw 42 rfl)) (Or.inr (own_w hw 46 rfl)) (by decide) (t := .int) (t' := .int) (by decide +kernel) (by decide +kernel)))).other W66 (Or.inr (slot_ne (Or.inr (own_w hw 42 rfl)) (Or.inr (own_w hw 48 rfl)) (by decide) (t := .int) (t' := .int) (by decide +kernel) (by decide +kernel)))).other W74 (Or.inr (slot_ne (Or.inr (own_w hw 42 rfl)) (Or.inr (own_w hw 50 rfl)) (by decide) (t := .int) (t' := .long) (by decide +kernel) (by decide +kernel))))
      refine own_getF (pc' := 296) X77 hx hZ hown (host := "") (Or.inl (own_w hw 41 rfl)) Via.refl e77 f78 (hb hby d1_293) rfl ?_
      intro T79 X79 e79
      refine own_lushr (pc' := 297) X79 hx (hb hby d1_296) rfl ?_
      have f80 := ((((((((((((((((((F_moved1.other W5 (Or.inr (slot_ne (Or.inr (own_w hw 52 rfl)) (Or.inr (own_w hw 16 rfl)) (by decide) (t := .long) (t' := .int) (by decide +kernel) (by decide +kernel)))).other W9 (Or.inr (slot_ne (Or.inr (own_w hw 52 rfl)) (Or.inr (own_w hw 19 rfl)) (by decide) (t := .long) (t' := .int) (by decide +kernel) (by decide +kernel)))).other W12 (Or.inr (slot_ne (Or.inr (own_w hw 52 rfl)) (Or.inr (own_w hw 21 rfl)) (by decide) (t := .long) (t' := .long) (by decide +kernel) (by decide +kernel)))).other W15 (Or.inr (slot_ne (Or.inr (own_w hw 52 rfl)) (Or.inr (own_w hw 23 rfl)) (by decide) (t := .long) (t' := .long) (by decide +kernel) (by decide +kernel)))).other W19 (Or.inr (slot_ne (Or.inr (own_w hw 52 rfl)) (Or.inr (own_w hw 25 rfl)) (by decide) (t := .long) (t' := .int) (by decide +kernel) (by decide +kernel)))).other W24 (Or.inr (slot_ne (Or.inr (own_w hw 52 rfl)) (Or.inr (own_w hw 27 rfl)) (by decide) (t := .long) (t' := .long) (by decide +kernel) (by decide +kernel)))).ext E26).other W32 (Or.inr (slot_ne (Or.inr (own_w hw 52 rfl)) (Or.inr (own_w hw 30 rfl)) (by decide) (t := .long) (t' := .long) (by decide +kernel) (by decide +kernel)))).other W36 (Or.inr (slot_ne (Or.inr (own_w hw 52 rfl)) (Or.inr (own_w hw 32 rfl)) (by decide) (t := .long) (t' := .long) (by decide +kernel) (by decide +kernel)))).other W40 (Or.inr (slot_ne (Or.inr (own_w hw 52 rfl)) (Or.inr (own_w hw 34 rfl)) (by decide) (t := .long) (t' := .long) (by decide +kernel) (by decide +kernel)))).other W44 (Or.inr (slot_ne (Or.inr (own_w hw 52 rfl)) (Or.inr (own_w hw 36 rfl)) (by decide) (t := .long) (t' := .long) (by decide +kernel) (by decide +kernel)))).other W48 (Or.inr (slot_ne (Or.inr (own_w hw 52 rfl)) (Or.inr (own_w hw 38 rfl)) (by decide) (t := .long) (t' := .long) (by decide +kernel) (by decide +kernel)))).other W51 (Or.inr (slot_ne (Or.inr (own_w hw 52 rfl)) (Or.inr (own_w hw 40 rfl)) (by decide) (t := .long) (t' := .int) (by decide +kernel) (by decide +kernel)))).other W54 (Or.inr (slot_ne (Or.inr (own_w hw 52 rfl)) (Or.inr (own_w hw 42 rfl)) (by decide) (t := .long) (t' := .int) (by decide +kernel) (by decide +kernel)))).other W58 (Or.inr (slot_ne (Or.inr (own_w hw 52 rfl)) (Or.inr (own_w hw 44 rfl)) (by decide) (t := .long) (t' := .int) (by decide +kernel) (by decide +kernel)))).other W62 (Or.inr (slot_ne (Or.inr (own_w hw 52 rfl)) (Or.inr (own_w hw 46 rfl)) (by decide) (t := .long) (t' := .int) (by decide +kernel) (by decide +kernel)))).other W66 (Or.inr (slot_ne (Or.inr (own_w hw 52 rfl)) (Or.inr (own_w hw 48 rfl)) (by decide) (t := .long) (t' := .int) (by decide +kernel) (by decide +kernel)))).other W74 (Or.inr (slot_ne (Or.inr (own_w hw 52 rfl)) (Or.inr (own_w hw 50 rfl)) (by decide) (t := .long) (t' := .long) (by decide +kernel) (by decide +kernel))))
      have f81 := (f73.wr W74)
      obtain ⟨v83, hv83⟩ : ∃ z : Int64, z = (((0 : Int64).toUInt64 >>> (v55 &&& 0x3f).toInt64.toUInt64).toInt64) := ⟨_, rfl⟩
      rw [← hv83]
      refine own_putF (pc' := 300) X79 hx hZ hown (host := "") (Or.inl (own_w hw 51 rfl)) Via.refl e79 f80 f81 (Or.inr ⟨(own_w hw 52 rfl), rfl, hnm⟩) (own_w hw 2 rfl) (ty := .long) (by decide) rfl rfl (hb hby d1_297) rfl ?_
      intro T82 h82 X82 e82 W82
      have z82 : n0 ≤ h82.size := Nat.le_trans z74 (Keep.of_wr W82).1
      have Fw82 := f80.same W82
      have N82 := Fr.snoc X82 N74 g_a1
      have K82 : Keep h0 h82 [a1] := K74.wr W82 (Or.inl (List.mem_of_getElem? (i := 0) rfl))
      refine own_aloadN (pc' := 301) X82 hx (hb hby d1_300) rfl rfl rfl ?_
      refine own_aloadN (pc' := 302) X82 hx (hb hby d1_301) rfl rfl rfl ?_
      have f84 := (((((((((Fw40.other W44 (Or.inr (slot_ne (Or.inr (own_w hw 34 rfl)) (Or.inr (own_w hw 36 rfl)) (by decide) (t := .long) (t' := .long) (by decide +kernel) (by decide +kernel)))).other W48 (Or.inr (slot_ne (Or.inr (own_w hw 34 rfl)) (Or.inr (own_w hw 38 rfl)) (by decide) (t := .long) (t' := .long) (by decide +kernel) (by decide +kernel)))).other W51 (Or.inr (slot_ne (Or.inr (own_w hw 34 rfl)) (Or.inr (own_w hw 40 rfl)) (by decide) (t := .long) (t' := .int) (by decide +kernel) (by decide +kernel)))).other W54 (Or.inr (slot_ne (Or.inr (own_w hw 34 rfl)) (Or.inr (own_w hw 42 rfl)) (by decide) (t := .long) (t' := .int) (by decide +kernel) (by decide +kernel)))).other W58 (Or.inr (slot_ne (Or.inr (own_w hw 34 rfl)) (Or.inr (own_w hw 44 rfl)) (by decide) (t := .long) (t' := .int) (by decide +kernel) (by decide +kernel)))).other W62 (Or.inr (slot_ne (Or.inr (own_w hw 34 rfl)) (Or.inr (own_w hw 46 rfl)) (by decide) (t := .long) (t' := .int) (by decide +kernel) (by decide +kernel)))).other W66 (Or.inr (slot_ne (Or.inr (own_w hw 34 rfl)) (Or.inr (own_w hw 48 rfl)) (by decide) (t := .long) (t' := .int) (by decide +kernel) (by decide +kernel)))).other W74 (Or.inr (slot_ne (Or.inr (own_w hw 34 rfl)) (Or.inr (own_w hw 50 rfl)) (by decide) (t := .long) (t' := .long) (by decide +kernel) (by decide +kernel)))).other W82 (Or.inr (slot_ne (Or.inr (own_w hw 34 rfl)) (Or.inr (own_w hw 52 rfl)) (by decide) (t := .long) (t' := .long) (by decide +kernel) (by decide +kernel))))
      refine own_getF (pc' := 305) X82 hx hZ hown (host := "") (Or.inl (own_w hw 33 rfl)) Via.refl e82 f84 (hb hby d1_302) rfl ?_
      intro T85 X85 e85
      refine own_aloadN (pc' := 306) X85 hx (hb hby d1_305) rfl rfl rfl ?_
      have f86 := ((((Fw58.other W62 (Or.inr (slot_ne (Or.inr (own_w hw 44 rfl)) (Or.inr (own_w hw 46 rfl)) (by decide) (t := .int) (t' := .int) (by decide +kernel) (by decide +kernel)))).other W66 (Or.inr (slot_ne (Or.inr (own_w hw 44 rfl)) (Or.inr (own_w hw 48 rfl)) (by decide) (t := .int) (t' := .int) (by decide +kernel) (by decide +kernel)))).other W74 (Or.inr (slot_ne (Or.inr (own_w hw 44 rfl)) (Or.inr (own_w hw 50 rfl)) (by decide) (t := .int) (t' := .long) (by decide +kernel) (by decide +kernel)))).other W82 (Or.inr (slot_ne (Or.inr (own_w hw 44 rfl)) (Or.inr (own_w hw 52 rfl)) (by decide) (t := .int) (t' := .long) (by decide +kernel) (by decide +kernel))))
      refine own_getF (pc' := 309) X85 hx hZ hown (host := "") (Or.inl (own_w hw 43 rfl)) Via.refl e85 f86 (hb hby d1_306) rfl ?_
      intro T87 X87 e87
      refine own_lushr (pc' := 310) X87 hx (hb hby d1_309) rfl ?_
      have f88 := (((((((((((((((((((F_moved2.other W5 (Or.inr (slot_ne (Or.inr (own_w hw 54 rfl)) (Or.inr (own_w hw 16 rfl)) (by decide) (t := .long) (t' := .int) (by decide +kernel) (by decide +kernel)))).other W9 (Or.inr (slot_ne (Or.inr (own_w hw 54 rfl)) (Or.inr (own_w hw 19 rfl)) (by decide) (t := .long) (t' := .int) (by decide +kernel) (by decide +kernel)))).other W12 (Or.inr (slot_ne (Or.inr (own_w hw 54 rfl)) (Or.inr (own_w hw 21 rfl)) (by decide) (t := .long) (t' := .long) (by decide +kernel) (by decide +kernel)))).other W15 (Or.inr (slot_ne (Or.inr (own_w hw 54 rfl)) (Or.inr (own_w hw 23 rfl)) (by decide) (t := .long) (t' := .long) (by decide +kernel) (by decide +kernel)))).other W19 (Or.inr (slot_ne (Or.inr (own_w hw 54 rfl)) (Or.inr (own_w hw 25 rfl)) (by decide) (t := .long) (t' := .int) (by decide +kernel) (by decide +kernel)))).other W24 (Or.inr (slot_ne (Or.inr (own_w hw 54 rfl)) (Or.inr (own_w hw 27 rfl)) (by decide) (t := .long) (t' := .long) (by decide +kernel) (by decide +kernel)))).ext E26).other W32 (Or.inr (slot_ne (Or.inr (own_w hw 54 rfl)) (Or.inr (own_w hw 30 rfl)) (by decide) (t := .long) (t' := .long) (by decide +kernel) (by decide +kernel)))).other W36 (Or.inr (slot_ne (Or.inr (own_w hw 54 rfl)) (Or.inr (own_w hw 32 rfl)) (by decide) (t := .long) (t' := .long) (by decide +kernel) (by decide +kernel)))).other W40 (Or.inr (slot_ne (Or.inr (own_w hw 54 rfl)) (Or.inr (own_w hw 34 rfl)) (by decide) (t := .long) (t' := .long) (by decide +kernel) (by decide +kernel)))).other W44 (Or.inr (slot_ne (Or.inr (own_w hw 54 rfl)) (Or.inr (own_w hw 36 rfl)) (by decide) (t := .long) (t' := .long) (by decide +kernel) (by decide +kernel)))).other W48 (Or.inr (slot_ne (Or.inr (own_w hw 54 rfl)) (Or.inr (own_w hw 38 rfl)) (by decide) (t := .long) (t' := .long) (by decide +kernel) (by decide +kernel)))).other W51 (Or.inr (slot_ne (Or.inr (own_w hw 54 rfl)) (Or.inr (own_w hw 40 rfl)) (by decide) (t := .long) (t' := .int) (by decide +kernel) (by decide +kernel)))).other W54 (Or.inr (slot_ne (Or.inr (own_w hw 54 rfl)) (Or.inr (own_w hw 42 rfl)) (by decide) (t := .long) (t' := .int) (by decide +kernel) (by decide +kernel)))).other W58 (Or.inr (slot_ne (Or.inr (own_w hw 54 rfl)) (Or.inr (own_w hw 44 rfl)) (by decide) (t := .long) (t' := .int) (by decide +kernel) (by decide +kernel)))).other W62 (Or.inr (slot_ne (Or.inr (own_w hw 54 rfl)) (Or.inr (own_w hw 46 rfl)) (by decide) (t := .long) (t' := .int) (by decide +kernel) (by decide +kernel)))).other W66 (Or.inr (slot_ne (Or.inr (own_w hw 54 rfl)) (Or.inr (own_w hw 48 rfl)) (by decide) (t := .long) (t' := .int) (by decide +kernel) (by decide +kernel)))).other W74 (Or.inr (slot_ne (Or.inr (own_w hw 54 rfl)) (Or.inr (own_w hw 50 rfl)) (by decide) (t := .long) (t' := .long) (by decide +kernel) (by decide +kernel)))).other W82 (Or.inr (slot_ne (Or.inr (own_w hw 54 rfl)) (Or.inr (own_w hw 52 rfl)) (by decide) (t := .long) (t' := .long) (by decide +kernel) (by decide +kernel))))
      have f89 := (f81.wr W82)
      obtain ⟨v91, hv91⟩ : ∃ z : Int64, z = (((0 : Int64).toUInt64 >>> (v59 &&& 0x3f).toInt64.toUInt64).toInt64) := ⟨_, rfl⟩
      rw [← hv91]
      refine own_putF (pc' := 313) X87 hx hZ hown (host := "") (Or.inl (own_w hw 53 rfl)) Via.refl e87 f88 f89 (Or.inr ⟨(own_w hw 54 rfl), rfl, hnm⟩) (own_w hw 2 rfl) (ty := .long) (by decide) rfl rfl (hb hby d1_310) rfl ?_
      intro T90 h90 X90 e90 W90
      have z90 : n0 ≤ h90.size := Nat.le_trans z82 (Keep.of_wr W90).1
      have Fw90 := f88.same W90
      have N90 := Fr.snoc X90 N82 g_a1
      have K90 : Keep h0 h90 [a1] := K82.wr W90 (Or.inl (List.mem_of_getElem? (i := 0) rfl))
      refine own_aloadN (pc' := 314) X90 hx (hb hby d1_313) rfl rfl rfl ?_
      refine own_aloadN (pc' := 315) X90 hx (hb hby d1_314) rfl rfl rfl ?_
      have f92 := (((((((((Fw44.other W48 (Or.inr (slot_ne (Or.inr (own_w hw 36 rfl)) (Or.inr (own_w hw 38 rfl)) (by decide) (t := .long) (t' := .long) (by decide +kernel) (by decide +kernel)))).other W51 (Or.inr (slot_ne (Or.inr (own_w hw 36 rfl)) (Or.inr (own_w hw 40 rfl)) (by decide) (t := .long) (t' := .int) (by decide +kernel) (by decide +kernel)))).other W54 (Or.inr (slot_ne (Or.inr (own_w hw 36 rfl)) (Or.inr (own_w hw 42 rfl)) (by decide) (t := .long) (t' := .int) (by decide +kernel) (by decide +kernel)))).other W58 (Or.inr (slot_ne (Or.inr (own_w hw 36 rfl)) (Or.inr (own_w hw 44 rfl)) (by decide) (t := .long) (t' := .int) (by decide +kernel) (by decide +kernel)))).other W62 (Or.inr (slot_ne (Or.inr (own_w hw 36 rfl)) (Or.inr (own_w hw 46 rfl)) (by decide) (t := .long) (t' := .int) (by decide +kernel) (by decide +kernel)))).other W66 (Or.inr (slot_ne (Or.inr (own_w hw 36 rfl)) (Or.inr (own_w hw 48 rfl)) (by decide) (t := .long) (t' := .int) (by decide +kernel) (by decide +kernel)))).other W74 (Or.inr (slot_ne (Or.inr (own_w hw 36 rfl)) (Or.inr (own_w hw 50 rfl)) (by decide) (t := .long) (t' := .long) (by decide +kernel) (by decide +kernel)))).other W82 (Or.inr (slot_ne (Or.inr (own_w hw 36 rfl)) (Or.inr (own_w hw 52 rfl)) (by decide) (t := .long) (t' := .long) (by decide +kernel) (by decide +kernel)))).other W90 (Or.inr (slot_ne (Or.inr (own_w hw 36 rfl)) (Or.inr (own_w hw 54 rfl)) (by decide) (t := .long) (t' := .long) (by decide +kernel) (by decide +kernel))))
      refine own_getF (pc' := 318) X90 hx hZ hown (host := "") (Or.inl (own_w hw 35 rfl)) Via.refl e90 f92 (hb hby d1_315) rfl ?_
      intro T93 X93 e93
      refine own_aloadN (pc' := 319) X93 hx (hb hby d1_318) rfl rfl rfl ?_
      have f94 := ((((Fw62.other W66 (Or.inr (slot_ne (Or.inr (own_w hw 46 rfl)) (Or.inr (own_w hw 48 rfl)) (by decide) (t := .int) (t' := .int) (by decide +kernel) (by decide +kernel)))).other W74 (Or.inr (slot_ne (Or.inr (own_w hw 46 rfl)) (Or.inr (own_w hw 50 rfl)) (by decide) (t := .int) (t' := .long) (by decide +kernel) (by decide +kernel)))).other W82 (Or.inr (slot_ne (Or.inr (own_w hw 46 rfl)) (Or.inr (own_w hw 52 rfl)) (by decide) (t := .int) (t' := .long) (by decide +kernel) (by decide +kernel)))).other W90 (Or.inr (slot_ne (Or.inr (own_w hw 46 rfl)) (Or.inr (own_w hw 54 rfl)) (by decide) (t := .int) (t' := .long) (by decide +kernel) (by decide +kernel))))
      refine own_getF (pc' := 322) X93 hx hZ hown (host := "") (Or.inl (own_w hw 45 rfl)) Via.refl e93 f94 (hb hby d1_319) rfl ?_
      intro T95 X95 e95
      refine own_lushr (pc' := 323) X95 hx (hb hby d1_322) rfl ?_
      have f96 := ((((((((((((((((((((F_moved3.other W5 (Or.inr (slot_ne (Or.inr (own_w hw 56 rfl)) (Or.inr (own_w hw 16 rfl)) (by decide) (t := .long) (t' := .int) (by decide +kernel) (by decide +kernel)))).other W9 (Or.inr (slot_ne (Or.inr (own_w hw 56 rfl)) (Or.inr (own_w hw 19 rfl)) (by decide) (t := .long) (t' := .int) (by decide +kernel) (by decide +kernel)))).other W12 (Or.inr (slot_ne (Or.inr (own_w hw 56 rfl)) (Or.inr (own_w hw 21 rfl)) (by decide) (t := .long) (t' := .long) (by decide +kernel) (by decide +kernel)))).other W15 (Or.inr (slot_ne (Or.inr (own_w hw 56 rfl)) (Or.inr (own_w hw 23 rfl)) (by decide) (t := .long) (t' := .long) (by decide +kernel) (by decide +kernel)))).other W19 (Or.inr (slot_ne (Or.inr (own_w hw 56 rfl)) (Or.inr (own_w hw 25 rfl)) (by decide) (t := .long) (t' := .int) (by decide +kernel) (by decide +kernel)))).other W24 (Or.inr (slot_ne (Or.inr (own_w hw 56 rfl)) (Or.inr (own_w hw 27 rfl)) (by decide) (t := .long) (t' := .long) (by decide +kernel) (by decide +kernel)))).ext E26).other W32 (Or.inr (slot_ne (Or.inr (own_w hw 56 rfl)) (Or.inr (own_w hw 30 rfl)) (by decide) (t := .long) (t' := .long) (by decide +kernel) (by decide +kernel)))).other W36 (Or.inr (slot_ne (Or.inr (own_w hw 56 rfl)) (Or.inr (own_w hw 32 rfl)) (by decide) (t := .long) (t' := .long) (by decide +kernel) (by decide +kernel)))).other W40 (Or.inr (slot_ne (Or.inr (own_w hw 56 rfl)) (Or.inr (own_w hw 34 rfl)) (by decide) (t := .long) (t' := .long) (by decide +kernel) (by decide +kernel)))).other W44 (Or.inr (slot_ne (Or.inr (own_w hw 56 rfl)) (Or.inr (own_w hw 36 rfl)) (by decide) (t := .long) (t' := .long) (by decide +kernel) (by decide +kernel)))).other W48 (Or.inr (slot_ne (Or.inr (own_w hw 56 rfl)) (Or.inr (own_w hw 38 rfl)) (by decide) (t := .long) (t' := .long) (by decide +kernel) (by decide +kernel)))).other W51 (Or.inr (slot_ne (Or.inr (own_w hw 56 rfl)) (Or.inr (own_w hw 40 rfl)) (by decide) (t := .long) (t' := .int) (by decide +kernel) (by decide +kernel)))).other W54 (Or.inr (slot_ne (Or.inr (own_w hw 56 rfl)) (Or.inr (own_w hw 42 rfl)) (by decide) (t := .long) (t' := .int) (by decide +kernel) (by decide +kernel)))).other W58 (Or.inr (slot_ne (Or.inr (own_w hw 56 rfl)) (Or.inr (own_w hw 44 rfl)) (by decide) (t := .long) (t' := .int) (by decide +kernel) (by decide +kernel)))).other W62 (Or.inr (slot_ne (Or.inr (own_w hw 56 rfl)) (Or.inr (own_w hw 46 rfl)) (by decide) (t := .long) (t' := .int) (by decide +kernel) (by decide +kernel)))).other W66 (Or.inr (slot_ne (Or.inr (own_w hw 56 rfl)) (Or.inr (own_w hw 48 rfl)) (by decide) (t := .long) (t' := .int) (by decide +kernel) (by decide +kernel)))).other W74 (Or.inr (slot_ne (Or.inr (own_w hw 56 rfl)) (Or.inr (own_w hw 50 rfl)) (by decide) (t := .long) (t' := .long) (by decide +kernel) (by decide +kernel)))).other W82 (Or.inr (slot_ne (Or.inr (own_w hw 56 rfl)) (Or.inr (own_w hw 52 rfl)) (by decide) (t := .long) (t' := .long) (by decide +kernel) (by decide +kernel)))).other W90 (Or.inr (slot_ne (Or.inr (own_w hw 56 rfl)) (Or.inr (own_w hw 54 rfl)) (by decide) (t := .long) (t' := .long) (by decide +kernel) (by decide +kernel))))
      have f97 := (f89.wr W90)
      obtain ⟨v99, hv99⟩ : ∃ z : Int64, z = (((0 : Int64).toUInt64 >>> (v63 &&& 0x3f).toInt64.toUInt64).toInt64) := ⟨_, rfl⟩
      rw [← hv99]
      refine own_putF (pc' := 326) X95 hx hZ hown (host := "") (Or.inl (own_w hw 55 rfl)) Via.refl e95 f96 f97 (Or.inr ⟨(own_w hw 56 rfl), rfl, hnm⟩) (own_w hw 2 rfl) (ty := .long) (by decide) rfl rfl (hb hby d1_323) rfl ?_
      intro T98 h98 X98 e98 W98
      have z98 : n0 ≤ h98.size := Nat.le_trans z90 (Keep.of_wr W98).1
      have Fw98 := f96.same W98
      have N98 := Fr.snoc X98 N90 g_a1
      have K98 : Keep h0 h98 [a1] := K90.wr W98 (Or.inl (List.mem_of_getElem? (i := 0) rfl))
      refine own_aloadN (pc' := 327) X98 hx (hb hby d1_326) rfl rfl rfl ?_
      refine own_aloadN (pc' := 328) X98 hx (hb hby d1_327) rfl rfl rfl ?_
      have f100 := (((((((((Fw48.other W51 (Or.inr (slot_ne (Or.inr (own_w hw 38 rfl)) (Or.inr (own_w hw 40 rfl)) (by decide) (t := .long) (t' := .int) (by decide +kernel) (by decide +kernel)))).other W54 (Or.inr (slot_ne (Or.inr (own_w hw 38 rfl)) (Or.inr (own_w hw 42 rfl)) (by decide) (t := .long) (t' := .int) (by decide +kernel) (by decide +kernel)))).other W58 (Or.inr (slot_ne (Or.inr (own_w hw 38 rfl)) (Or.inr (own_w hw 44 rfl)) (by decide) (t := .long) (t' := .int) (by decide +kernel) (by decide +kernel)))).other W62 (Or.inr (slot_ne (Or.inr (own_w hw 38 rfl)) (Or.inr (own_w hw 46 rfl)) (by decide) (t := .long) (t' := .int) (by decide +kernel) (by decide +kernel)))).other W66 (Or.inr (slot_ne (Or.inr (own_w hw 38 rfl)) (Or.inr (own_w hw 48 rfl)) (by decide) (t := .long) (t' := .int) (by decide +kernel) (by decide +kernel)))).other W74 (Or.inr (slot_ne (Or.inr (own_w hw 38 rfl)) (Or.inr (own_w hw 50 rfl)) (by decide) (t := .long) (t' := .long) (by decide +kernel) (by decide +kernel)))).other W82 (Or.inr (slot_ne (Or.inr (own_w hw 38 rfl)) (Or.inr (own_w hw 52 rfl)) (by decide) (t := .long) (t' := .long) (by decide +kernel) (by decide +kernel)))).other W90 (Or.inr (slot_ne (Or.inr (own_w hw 38 rfl)) (Or.inr (own_w hw 54 rfl)) (by decide) (t := .long) (t' := .long) (by decide +kernel) (by decide +kernel)))).other W98 (Or.inr (slot_ne (Or.inr (own_w hw 38 rfl)) (Or.inr (own_w hw 56 rfl)) (by decide) (t := .long) (t' := .long) (by decide +kernel) (by decide +kernel))))
      refine own_getF (pc' := 331) X98 hx hZ hown (host := "") (Or.inl (own_w hw 37 rfl)) Via.refl e98 f100 (hb hby d1_328) rfl ?_
      intro T101 X101 e101
      refine own_aloadN (pc' := 332) X101 hx (hb hby d1_331) rfl rfl rfl ?_
      have f102 := ((((Fw66.other W74 (Or.inr (slot_ne (Or.inr (own_w hw 48 rfl)) (Or.inr (own_w hw 50 rfl)) (by decide) (t := .int) (t' := .long) (by decide +kernel) (by decide +kernel)))).other W82 (Or.inr (slot_ne (Or.inr (own_w hw 48 rfl)) (Or.inr (own_w hw 52 rfl)) (by decide) (t := .int) (t' := .long) (by decide +kernel) (by decide +kernel)))).other W90 (Or.inr (slot_ne (Or.inr (own_w hw 48 rfl)) (Or.inr (own_w hw 54 rfl)) (by decide) (t := .int) (t' := .long) (by decide +kernel) (by decide +kernel)))).other W98 (Or.inr (slot_ne (Or.inr (own_w hw 48 rfl)) (Or.inr (own_w hw 56 rfl)) (by decide) (t := .int) (t' := .long) (by decide +kernel) (by decide +kernel))))
      refine own_getF (pc' := 335) X101 hx hZ hown (host := "") (Or.inl (own_w hw 47 rfl)) Via.refl e101 f102 (hb hby d1_332) rfl ?_
      intro T103 X103 e103
      refine own_lushr (pc' := 336) X103 hx (hb hby d1_335) rfl ?_
      have f104 := (((((((((((((((((((((F_moved4.other W5 (Or.inr (slot_ne (Or.inr (own_w hw 58 rfl)) (Or.inr (own_w hw 16 rfl)) (by decide) (t := .long) (t' := .int) (by decide +kernel) (by decide +kernel)))).other W9 (Or.inr (slot_ne (Or.inr (own_w hw 58 rfl)) (Or.inr (own_w hw 19 rfl)) (by decide) (t := .long) (t' := .int) (by decide +kernel) (by decide +kernel)))).other W12 (Or.inr (slot_ne (Or.inr (own_w hw 58 rfl)) (Or.inr (own_w hw 21 rfl)) (by decide) (t := .long) (t' := .long) (by decide +kernel) (by decide +kernel)))).other W15 (Or.inr (slot_ne (Or.inr (own_w hw 58 rfl)) (Or.inr (own_w hw 23 rfl)) (by decide) (t := .long) (t' := .long) (by decide +kernel) (by decide +kernel)))).other W19 (Or.inr (slot_ne (Or.inr (own_w hw 58 rfl)) (Or.inr (own_w hw 25 rfl)) (by decide) (t := .long) (t' := .int) (by decide +kernel) (by decide +kernel)))).other W24 (Or.inr (slot_ne (Or.inr (own_w hw 58 rfl)) (Or.inr (own_w hw 27 rfl)) (by decide) (t := .long) (t' := .long) (by decide +kernel) (by decide +kernel)))).ext E26).other W32 (Or.inr (slot_ne (Or.inr (own_w hw 58 rfl)) (Or.inr (own_w hw 30 rfl)) (by decide) (t := .long) (t' := .long) (by decide +kernel) (by decide +kernel)))).other W36 (Or.inr (slot_ne (Or.inr (own_w hw 58 rfl)) (Or.inr (own_w hw 32 rfl)) (by decide) (t := .long) (t' := .long) (by decide +kernel) (by decide +kernel)))).other W40 (Or.inr (slot_ne (Or.inr (own_w hw 58 rfl)) (Or.inr (own_w hw 34 rfl)) (by decide) (t := .long) (t' := .long) (by decide +kernel) (by decide +kernel)))).other W44 (Or.inr (slot_ne (Or.inr (own_w hw 58 rfl)) (Or.inr (own_w hw 36 rfl)) (by decide) (t := .long) (t' := .long) (by decide +kernel) (by decide +kernel)))).other W48 (Or.inr (slot_ne (Or.inr (own_w hw 58 rfl)) (Or.inr (own_w hw 38 rfl)) (by decide) (t := .long) (t' := .long) (by decide +kernel) (by decide +kernel)))).other W51 (Or.inr (slot_ne (Or.inr (own_w hw 58 rfl)) (Or.inr (own_w hw 40 rfl)) (by decide) (t := .long) (t' := .int) (by decide +kernel) (by decide +kernel)))).other W54 (Or.inr (slot_ne (Or.inr (own_w hw 58 rfl)) (Or.inr (own_w hw 42 rfl)) (by decide) (t := .long) (t' := .int) (by decide +kernel) (by decide +kernel)))).other W58 (Or.inr (slot_ne (Or.inr (own_w hw 58 rfl)) (Or.inr (own_w hw 44 rfl)) (by decide) (t := .long) (t' := .int) (by decide +kernel) (by decide +kernel)))).other W62 (Or.inr (slot_ne (Or.inr (own_w hw 58 rfl)) (Or.inr (own_w hw 46 rfl)) (by decide) (t := .long) (t' := .int) (by decide +kernel) (by decide +kernel)))).other W66 (Or.inr (slot_ne (Or.inr (own_w hw 58 rfl)) (Or.inr (own_w hw 48 rfl)) (by decide) (t := .long) (t' := .int) (by decide +kernel) (by decide +kernel)))).other W74 (Or.inr (slot_ne (Or.inr (own_w hw 58 rfl)) (Or.inr (own_w hw 50 rfl)) (by decide) (t := .long) (t' := .long) (by decide +kernel) (by decide +kernel)))).other W82 (Or.inr (slot_ne (Or.inr (own_w hw 58 rfl)) (Or.inr (own_w hw 52 rfl)) (by decide) (t := .long) (t' := .long) (by decide +kernel) (by decide +kernel)))).other W90 (Or.inr (slot_ne (Or.inr (own_w hw 58 rfl)) (Or.inr (own_w hw 54 rfl)) (by decide) (t := .long) (t' := .long) (by decide +kernel) (by decide +kernel)))).other W98 (Or.inr (slot_ne (Or.inr (own_w hw 58 rfl)) (Or.inr (own_w hw 56 rfl)) (by decide) (t := .long) (t' := .long) (by decide +kernel) (by decide +kernel))))
      have f105 := (f97.wr W98)
      obtain ⟨v107, hv107⟩ : ∃ z : Int64, z = (((0 : Int64).toUInt64 >>> (v67 &&& 0x3f).toInt64.toUInt64).toInt64) := ⟨_, rfl⟩
      rw [← hv107]
      refine own_putF (pc' := 339) X103 hx hZ hown (host := "") (Or.inl (own_w hw 57 rfl)) Via.refl e103 f104 f105 (Or.inr ⟨(own_w hw 58 rfl), rfl, hnm⟩) (own_w hw 2 rfl) (ty := .long) (by decide) rfl rfl (hb hby d1_336) rfl ?_
      intro T106 h106 X106 e106 W106
      have z106 : n0 ≤ h106.size := Nat.le_trans z98 (Keep.of_wr W106).1
      have Fw106 := f104.same W106
      have N106 := Fr.snoc X106 N98 g_a1
      have K106 : Keep h0 h106 [a1] := K98.wr W106 (Or.inl (List.mem_of_getElem? (i := 0) rfl))
      have f108 := ((((((((((((((((((((Fw9.other W12 (Or.inr (slot_ne (Or.inr (own_w hw 19 rfl)) (Or.inr (own_w hw 21 rfl)) (by decide) (t := .int) (t' := .long) (by decide +kernel) (by decide +kernel)))).other W15 (Or.inr (slot_ne (Or.inr (own_w hw 19 rfl)) (Or.inr (own_w hw 23 rfl)) (by decide) (t := .int) (t' := .long) (by decide +kernel) (by decide +kernel)))).other W19 (Or.inr (slot_ne (Or.inr (own_w hw 19 rfl)) (Or.inr (own_w hw 25 rfl)) (by decide) (t := .int) (t' := .int) (by decide +kernel) (by decide +kernel)))).other W24 (Or.inr (slot_ne (Or.inr (own_w hw 19 rfl)) (Or.inr (own_w hw 27 rfl)) (by decide) (t := .int) (t' := .long) (by decide +kernel) (by decide +kernel)))).ext E26).other W32 (Or.inr (slot_ne (Or.inr (own_w hw 19 rfl)) (Or.inr (own_w hw 30 rfl)) (by decide) (t := .int) (t' := .long) (by decide +kernel) (by decide +kernel)))).other W36 (Or.inr (slot_ne (Or.inr (own_w hw 19 rfl)) (Or.inr (own_w hw 32 rfl)) (by decide) (t := .int) (t' := .long) (by decide +kernel) (by decide +kernel)))).other W40 (Or.inr (slot_ne (Or.inr (own_w hw 19 rfl)) (Or.inr (own_w hw 34 rfl)) (by decide) (t := .int) (t' := .long) (by decide +kernel) (by decide +kernel)))).other W44 (Or.inr (slot_ne (Or.inr (own_w hw 19 rfl)) (Or.inr (own_w hw 36 rfl)) (by decide) (t := .int) (t' := .long) (by decide +kernel) (by decide +kernel)))).other W48 (Or.inr (slot_ne (Or.inr (own_w hw 19 rfl)) (Or.inr (own_w hw 38 rfl)) (by decide) (t := .int) (t' := .long) (by decide +kernel) (by decide +kernel)))).other W51 (Or.inr (slot_ne (Or.inr (own_w hw 19 rfl)) (Or.inr (own_w hw 40 rfl)) (by decide) (t := .int) (t' := .int) (by decide +kernel) (by decide +kernel)))).other W54 (Or.inr (slot_ne (Or.inr (own_w hw 19 rfl)) (Or.inr (own_w hw 42 rfl)) (by decide) (t := .int) (t' := .int) (by decide +kernel) (by decide +kernel)))).other W58 (Or.inr (slot_ne (Or.inr (own_w hw 19 rfl)) (Or.inr (own_w hw 44 rfl)) (by decide) (t := .int) (t' := .int) (by decide +kernel) (by decide +kernel)))).other W62 (Or.inr (slot_ne (Or.inr (own_w hw 19 rfl)) (Or.inr (own_w hw 46 rfl)) (by decide) (t := .int) (t' := .int) (by decide +kernel) (by decide +kernel)))).other W66 (Or.inr (slot_ne (Or.inr (own_w hw 19 rfl)) (Or.inr (own_w hw 48 rfl)) (by decide) (t := .int) (t' := .int) (by decide +kernel) (by decide +kernel)))).other W74 (Or.inr (slot_ne (Or.inr (own_w hw 19 rfl)) (Or.inr (own_w hw 50 rfl)) (by decide) (t := .int) (t' := .long) (by decide +kernel) (by decide +kernel)))).other W82 (Or.inr (slot_ne (Or.inr (own_w hw 19 rfl)) (Or.inr (own_w hw 52 rfl)) (by decide) (t := .int) (t' := .long) (by decide +kernel) (by decide +kernel)))).other W90 (Or.inr (slot_ne (Or.inr (own_w hw 19 rfl)) (Or.inr (own_w hw 54 rfl)) (by decide) (t := .int) (t' := .long) (by decide +kernel) (by decide +kernel)))).other W98 (Or.inr (slot_ne (Or.inr (own_w hw 19 rfl)) (Or.inr (own_w hw 56 rfl)) (by decide) (t := .int) (t' := .long) (by decide +kernel) (by decide +kernel)))).other W106 (Or.inr (slot_ne (Or.inr (own_w hw 19 rfl)) (Or.inr (own_w hw 58 rfl)) (by decide) (t := .int) (t' := .long) (by decide +kernel) (by decide +kernel))))
      have f109 := (((((((((((((((((((Fw12.other W15 (Or.inr (slot_ne (Or.inr (own_w hw 21 rfl)) (Or.inr (own_w hw 23 rfl)) (by decide) (t := .long) (t' := .long) (by decide +kernel) (by decide +kernel)))).other W19 (Or.inr (slot_ne (Or.inr (own_w hw 21 rfl)) (Or.inr (own_w hw 25 rfl)) (by decide) (t := .long) (t' := .int) (by decide +kernel) (by decide +kernel)))).other W24 (Or.inr (slot_ne (Or.inr (own_w hw 21 rfl)) (Or.inr (own_w hw 27 rfl)) (by decide) (t := .long) (t' := .long) (by decide +kernel) (by decide +kernel)))).ext E26).other W32 (Or.inr (slot_ne (Or.inr (own_w hw 21 rfl)) (Or.inr (own_w hw 30 rfl)) (by decide) (t := .long) (t' := .long) (by decide +kernel) (by decide +kernel)))).other W36 (Or.inr (slot_ne (Or.inr (own_w hw 21 rfl)) (Or.inr (own_w hw 32 rfl)) (by decide) (t := .long) (t' := .long) (by decide +kernel) (by decide +kernel)))).other W40 (Or.inr (slot_ne (Or.inr (own_w hw 21 rfl)) (Or.inr (own_w hw 34 rfl)) (by decide) (t := .long) (t' := .long) (by decide +kernel) (by decide +kernel)))).other W44 (Or.inr (slot_ne (Or.inr (own_w hw 21 rfl)) (Or.inr (own_w hw 36 rfl)) (by decide) (t := .long) (t' := .long) (by decide +kernel) (by decide +kernel)))).other W48 (Or.inr (slot_ne (Or.inr (own_w hw 21 rfl)) (Or.inr (own_w hw 38 rfl)) (by decide) (t := .long) (t' := .long) (by decide +kernel) (by decide +kernel)))).other W51 (Or.inr (slot_ne (Or.inr (own_w hw 21 rfl)) (Or.inr (own_w hw 40 rfl)) (by decide) (t := .long) (t' := .int) (by decide +kernel) (by decide +kernel)))).other W54 (Or.inr (slot_ne (Or.inr (own_w hw 21 rfl)) (Or.inr (own_w hw 42 rfl)) (by decide) (t := .long) (t' := .int) (by decide +kernel) (by decide +kernel)))).other W58 (Or.inr (slot_ne (Or.inr (own_w hw 21 rfl)) (Or.inr (own_w hw 44 rfl)) (by decide) (t := .long) (t' := .int) (by decide +kernel) (by decide +kernel)))).other W62 (Or.inr (slot_ne (Or.inr (own_w hw 21 rfl)) (Or.inr (own_w hw 46 rfl)) (by decide) (t := .long) (t' := .int) (by decide +kernel) (by decide +kernel)))).other W66 (Or.inr (slot_ne (Or.inr (own_w hw 21 rfl)) (Or.inr (own_w hw 48 rfl)) (by decide) (t := .long) (t' := .int) (by decide +kernel) (by decide +kernel)))).other W74 (Or.inr (slot_ne (Or.inr (own_w hw 21 rfl)) (Or.inr (own_w hw 50 rfl)) (by decide) (t := .long) (t' := .long) (by decide +kernel) (by decide +kernel)))).other W82 (Or.inr (slot_ne (Or.inr (own_w hw 21 rfl)) (Or.inr (own_w hw 52 rfl)) (by decide) (t := .long) (t' := .long) (by decide +kernel) (by decide +kernel)))).other W90 (Or.inr (slot_ne (Or.inr (own_w hw 21 rfl)) (Or.inr (own_w hw 54 rfl)) (by decide) (t := .long) (t' := .long) (by decide +kernel) (by decide +kernel)))).other W98 (Or.inr (slot_ne (Or.inr (own_w hw 21 rfl)) (Or.inr (own_w hw 56 rfl)) (by decide) (t := .long) (t' := .long) (by decide +kernel) (by decide +kernel)))).other W106 (Or.inr (slot_ne (Or.inr (own_w hw 21 rfl)) (Or.inr (own_w hw 58 rfl)) (by decide) (t := .long) (t' := .long) (by decide +kernel) (by decide +kernel))))
      have f110 := ((((((((((((((((Fw24.ext E26).other W32 (Or.inr (slot_ne (Or.inr (own_w hw 27 rfl)) (Or.inr (own_w hw 30 rfl)) (by decide) (t := .long) (t' := .long) (by decide +kernel) (by decide +kernel)))).other W36 (Or.inr (slot_ne (Or.inr (own_w hw 27 rfl)) (Or.inr (own_w hw 32 rfl)) (by decide) (t := .long) (t' := .long) (by decide +kernel) (by decide +kernel)))).other W40 (Or.inr (slot_ne (Or.inr (own_w hw 27 rfl)) (Or.inr (own_w hw 34 rfl)) (by decide) (t := .long) (t' := .long) (by decide +kernel) (by decide +kernel)))).other W44 (Or.inr (slot_ne (Or.inr (own_w hw 27 rfl)) (Or.inr (own_w hw 36 rfl)) (by decide) (t := .long) (t' := .long) (by decide +kernel) (by decide +kernel)))).other W48 (Or.inr (slot_ne (Or.inr (own_w hw 27 rfl)) (Or.inr (own_w hw 38 rfl)) (by decide) (t := .long) (t' := .long) (by decide +kernel) (by decide +kernel)))).other W51 (Or.inr (slot_ne (Or.inr (own_w hw 27 rfl)) (Or.inr (own_w hw 40 rfl)) (by decide) (t := .long) (t' := .int) (by decide +kernel) (by decide +kernel)))).other W54 (Or.inr (slot_ne (Or.inr (own_w hw 27 rfl)) (Or.inr (own_w hw 42 rfl)) (by decide) (t := .long) (t' := .int) (by decide +kernel) (by decide +kernel)))).other W58 (Or.inr (slot_ne (Or.inr (own_w hw 27 rfl)) (Or.inr (own_w hw 44 rfl)) (by decide) (t := .long) (t' := .int) (by decide +kernel) (by decide +kernel)))).other W62 (Or.inr (slot_ne (Or.inr (own_w hw 27 rfl)) (Or.inr (own_w hw 46 rfl)) (by decide) (t := .long) (t' := .int) (by decide +kernel) (by decide +kernel)))).other W66 (Or.inr (slot_ne (Or.inr (own_w hw 27 rfl)) (Or.inr (own_w hw 48 rfl)) (by decide) (t := .long) (t' := .int) (by decide +kernel) (by decide +kernel)))).other W74 (Or.inr (slot_ne (Or.inr (own_w hw 27 rfl)) (Or.inr (own_w hw 50 rfl)) (by decide) (t := .long) (t' := .long) (by decide +kernel) (by decide +kernel)))).other W82 (Or.inr (slot_ne (Or.inr (own_w hw 27 rfl)) (Or.inr (own_w hw 52 rfl)) (by decide) (t := .long) (t' := .long) (by decide +kernel) (by decide +kernel)))).other W90 (Or.inr (slot_ne (Or.inr (own_w hw 27 rfl)) (Or.inr (own_w hw 54 rfl)) (by decide) (t := .long) (t' := .long) (by decide +kernel) (by decide +kernel)))).other W98 (Or.inr (slot_ne (Or.inr (own_w hw 27 rfl)) (Or.inr (own_w hw 56 rfl)) (by decide) (t := .long) (t' := .long) (by decide +kernel) (by decide +kernel)))).other W106 (Or.inr (slot_ne (Or.inr (own_w hw 27 rfl)) (Or.inr (own_w hw 58 rfl)) (by decide) (t := .long) (t' := .long) (by decide +kernel) (by decide +kernel))))
      have f111 := (((((((((((((((f28.other W32 (Or.inr (slot_ne (Or.inr (own_w hw 16 rfl)) (Or.inr (own_w hw 30 rfl)) (by decide) (t := .int) (t' := .long) (by decide +kernel) (by decide +kernel)))).other W36 (Or.inr (slot_ne (Or.inr (own_w hw 16 rfl)) (Or.inr (own_w hw 32 rfl)) (by decide) (t := .int) (t' := .long) (by decide +kernel) (by decide +kernel)))).other W40 (Or.inr (slot_ne (Or.inr (own_w hw 16 rfl)) (Or.inr (own_w hw 34 rfl)) (by decide) (t := .int) (t' := .long) (by decide +kernel) (by decide +kernel)))).other W44 (Or.inr (slot_ne (Or.inr (own_w hw 16 rfl)) (Or.inr (own_w hw 36 rfl)) (by decide) (t := .int) (t' := .long) (by decide +kernel) (by decide +kernel)))).other W48 (Or.inr (slot_ne (Or.inr (own_w hw 16 rfl)) (Or.inr (own_w hw 38 rfl)) (by decide) (t := .int) (t' := .long) (by decide +kernel) (by decide +kernel)))).other W51 (Or.inr (slot_ne (Or.inr (own_w hw 16 rfl)) (Or.inr (own_w hw 40 rfl)) (by decide) (t := .int) (t' := .int) (by decide +kernel) (by decide +kernel)))).other W54 (Or.inr (slot_ne (Or.inr (own_w hw 16 rfl)) (Or.inr (own_w hw 42 rfl)) (by decide) (t := .int) (t' := .int) (by decide +kernel) (by decide +kernel)))).other W58 (Or.inr (slot_ne (Or.inr (own_w hw 16 rfl)) (Or.inr (own_w hw 44 rfl)) (by decide) (t := .int) (t' := .int) (by decide +kernel) (by decide +kernel)))).other W62 (Or.inr (slot_ne (Or.inr (own_w hw 16 rfl)) (Or.inr (own_w hw 46 rfl)) (by decide) (t := .int) (t' := .int) (by decide +kernel) (by decide +kernel)))).other W66 (Or.inr (slot_ne (Or.inr (own_w hw 16 rfl)) (Or.inr (own_w hw 48 rfl)) (by decide) (t := .int) (t' := .int) (by decide +kernel) (by decide +kernel)))).other W74 (Or.inr (slot_ne (Or.inr (own_w hw 16 rfl)) (Or.inr (own_w hw 50 rfl)) (by decide) (t := .int) (t' := .long) (by decide +kernel) (by decide +kernel)))).other W82 (Or.inr (slot_ne (Or.inr (own_w hw 16 rfl)) (Or.inr (own_w hw 52 rfl)) (by decide) (t := .int) (t' := .long) (by decide +kernel) (by decide +kernel)))).other W90 (Or.inr (slot_ne (Or.inr (own_w hw 16 rfl)) (Or.inr (own_w hw 54 rfl)) (by decide) (t := .int) (t' := .long) (by decide +kernel) (by decide +kernel)))).other W98 (Or.inr (slot_ne (Or.inr (own_w hw 16 rfl)) (Or.inr (own_w hw 56 rfl)) (by decide) (t := .int) (t' := .long) (by decide +kernel) (by decide +kernel)))).other W106 (Or.inr (slot_ne (Or.inr (own_w hw 16 rfl)) (Or.inr (own_w hw 58 rfl)) (by decide) (t := .int) (t' := .long) (by decide +kernel) (by decide +kernel))))
      have f112 := (((((f68.other W74 (Or.inr (slot_ne (Or.inr (own_w hw 30 rfl)) (Or.inr (own_w hw 50 rfl)) (by decide) (t := .long) (t' := .long) (by decide +kernel) (by decide +kernel)))).other W82 (Or.inr (slot_ne (Or.inr (own_w hw 30 rfl)) (Or.inr (own_w hw 52 rfl)) (by decide) (t := .long) (t' := .long) (by decide +kernel) (by decide +kernel)))).other W90 (Or.inr (slot_ne (Or.inr (own_w hw 30 rfl)) (Or.inr (own_w hw 54 rfl)) (by decide) (t := .long) (t' := .long) (by decide +kernel) (by decide +kernel)))).other W98 (Or.inr (slot_ne (Or.inr (own_w hw 30 rfl)) (Or.inr (own_w hw 56 rfl)) (by decide) (t := .long) (t' := .long) (by decide +kernel) (by decide +kernel)))).other W106 (Or.inr (slot_ne (Or.inr (own_w hw 30 rfl)) (Or.inr (own_w hw 58 rfl)) (by decide) (t := .long) (t' := .long) (by decide +kernel) (by decide +kernel))))
      have f113 := ((((f76.other W82 (Or.inr (slot_ne (Or.inr (own_w hw 32 rfl)) (Or.inr (own_w hw 52 rfl)) (by decide) (t := .long) (t' := .long) (by decide +kernel) (by decide +kernel)))).other W90 (Or.inr (slot_ne (Or.inr (own_w hw 32 rfl)) (Or.inr (own_w hw 54 rfl)) (by decide) (t := .long) (t' := .long) (by decide +kernel) (by decide +kernel)))).other W98 (Or.inr (slot_ne (Or.inr (own_w hw 32 rfl)) (Or.inr (own_w hw 56 rfl)) (by decide) (t := .long) (t' := .long) (by decide +kernel) (by decide +kernel)))).other W106 (Or.inr (slot_ne (Or.inr (own_w hw 32 rfl)) (Or.inr (own_w hw 58 rfl)) (by decide) (t := .long) (t' := .long) (by decide +kernel) (by decide +kernel))))
      have f114 := (((f84.other W90 (Or.inr (slot_ne (Or.inr (own_w hw 34 rfl)) (Or.inr (own_w hw 54 rfl)) (by decide) (t := .long) (t' := .long) (by decide +kernel) (by decide +kernel)))).other W98 (Or.inr (slot_ne (Or.inr (own_w hw 34 rfl)) (Or.inr (own_w hw 56 rfl)) (by decide) (t := .long) (t' := .long) (by decide +kernel) (by decide +kernel)))).other W106 (Or.inr (slot_ne (Or.inr (own_w hw 34 rfl)) (Or.inr (own_w hw 58 rfl)) (by decide) (t := .long) (t' := .long) (by decide +kernel) (by decide +kernel))))
      have f115 := ((f92.other W98 (Or.inr (slot_ne (Or.inr (own_w hw 36 rfl)) (Or.inr (own_w hw 56 rfl)) (by decide) (t := .long) (t' := .long) (by decide +kernel) (by decide +kernel)))).other W106 (Or.inr (slot_ne (Or.inr (own_w hw 36 rfl)) (Or.inr (own_w hw 58 rfl)) (by decide) (t := .long) (t' := .long) (by decide +kernel) (by decide +kernel))))
      have f116 := (f100.other W106 (Or.inr (slot_ne (Or.inr (own_w hw 38 rfl)) (Or.inr (own_w hw 58 rfl)) (by decide) (t := .long) (t' := .long) (by decide +kernel) (by decide +kernel))))
      have f117 := ((((Fw74.other W82 (Or.inr (slot_ne (Or.inr (own_w hw 50 rfl)) (Or.inr (own_w hw 52 rfl)) (by decide) (t := .long) (t' := .long) (by decide +kernel) (by decide +kernel)))).other W90 (Or.inr (slot_ne (Or.inr (own_w hw 50 rfl)) (Or.inr (own_w hw 54 rfl)) (by decide) (t := .long) (t' := .long) (by decide +kernel) (by decide +kernel)))).other W98 (Or.inr (slot_ne (Or.inr (own_w hw 50 rfl)) (Or.inr (own_w hw 56 rfl)) (by decide) (t := .long) (t' := .long) (by decide +kernel) (by decide +kernel)))).other W106 (Or.inr (slot_ne (Or.inr (own_w hw 50 rfl)) (Or.inr (own_w hw 58 rfl)) (by decide) (t := .long) (t' := .long) (by decide +kernel) (by decide +kernel))))
      have f118 := (((Fw82.other W90 (Or.inr (slot_ne (Or.inr (own_w hw 52 rfl)) (Or.inr (own_w hw 54 rfl)) (by decide) (t := .long) (t' := .long) (by decide +kernel) (by decide +kernel)))).other W98 (Or.inr (slot_ne (Or.inr (own_w hw 52 rfl)) (Or.inr (own_w hw 56 rfl)) (by decide) (t := .long) (t' := .long) (by decide +kernel) (by decide +kernel)))).other W106 (Or.inr (slot_ne (Or.inr (own_w hw 52 rfl)) (Or.inr (own_w hw 58 rfl)) (by decide) (t := .long) (t' := .long) (by decide +kernel) (by decide +kernel))))
      have f119 := ((Fw90.other W98 (Or.inr (slot_ne (Or.inr (own_w hw 54 rfl)) (Or.inr (own_w hw 56 rfl)) (by decide) (t := .long) (t' := .long) (by decide +kernel) (by decide +kernel)))).other W106 (Or.inr (slot_ne (Or.inr (own_w hw 54 rfl)) (Or.inr (own_w hw 58 rfl)) (by decide) (t := .long) (t' := .long) (by decide +kernel) (by decide +kernel))))
      have f120 := (Fw98.other W106 (Or.inr (slot_ne (Or.inr (own_w hw 56 rfl)) (Or.inr (own_w hw 58 rfl)) (by decide) (t := .long) (t' := .long) (by decide +kernel) (by decide +kernel))))
      have f121 := (((((f70.other W74 (Or.inr (slot_ne (Or.inr (own_w hw 40 rfl)) (Or.inr (own_w hw 50 rfl)) (by decide) (t := .int) (t' := .long) (by decide +kernel) (by decide +kernel)))).other W82 (Or.inr (slot_ne (Or.inr (own_w hw 40 rfl)) (Or.inr (own_w hw 52 rfl)) (by decide) (t := .int) (t' := .long) (by decide +kernel) (by decide +kernel)))).other W90 (Or.inr (slot_ne (Or.inr (own_w hw 40 rfl)) (Or.inr (own_w hw 54 rfl)) (by decide) (t := .int) (t' := .long) (by decide +kernel) (by decide +kernel)))).other W98 (Or.inr (slot_ne (Or.inr (own_w hw 40 rfl)) (Or.inr (own_w hw 56 rfl)) (by decide) (t := .int) (t' := .long) (by decide +kernel) (by decide +kernel)))).other W106 (Or.inr (slot_ne (Or.inr (own_w hw 40 rfl)) (Or.inr (own_w hw 58 rfl)) (by decide) (t := .int) (t' := .long) (by decide +kernel) (by decide +kernel))))
      have f122 := ((((f78.other W82 (Or.inr (slot_ne (Or.inr (own_w hw 42 rfl)) (Or.inr (own_w hw 52 rfl)) (by decide) (t := .int) (t' := .long) (by decide +kernel) (by decide +kernel)))).other W90 (Or.inr (slot_ne (Or.inr (own_w hw 42 rfl)) (Or.inr (own_w hw 54 rfl)) (by decide) (t := .int) (t' := .long) (by decide +kernel) (by decide +kernel)))).other W98 (Or.inr (slot_ne (Or.inr (own_w hw 42 rfl)) (Or.inr (own_w hw 56 rfl)) (by decide) (t := .int) (t' := .long) (by decide +kernel) (by decide +kernel)))).other W106 (Or.inr (slot_ne (Or.inr (own_w hw 42 rfl)) (Or.inr (own_w hw 58 rfl)) (by decide) (t := .int) (t' := .long) (by decide +kernel) (by decide +kernel))))
      have f123 := (((f86.other W90 (Or.inr (slot_ne (Or.inr (own_w hw 44 rfl)) (Or.inr (own_w hw 54 rfl)) (by decide) (t := .int) (t' := .long) (by decide +kernel) (by decide +kernel)))).other W98 (Or.inr (slot_ne (Or.inr (own_w hw 44 rfl)) (Or.inr (own_w hw 56 rfl)) (by decide) (t := .int) (t' := .long) (by decide +kernel) (by decide +kernel)))).other W106 (Or.inr (slot_ne (Or.inr (own_w hw 44 rfl)) (Or.inr (own_w hw 58 rfl)) (by decide) (t := .int) (t' := .long) (by decide +kernel) (by decide +kernel))))
      have f124 := ((f94.other W98 (Or.inr (slot_ne (Or.inr (own_w hw 46 rfl)) (Or.inr (own_w hw 56 rfl)) (by decide) (t := .int) (t' := .long) (by decide +kernel) (by decide +kernel)))).other W106 (Or.inr (slot_ne (Or.inr (own_w hw 46 rfl)) (Or.inr (own_w hw 58 rfl)) (by decide) (t := .int) (t' := .long) (by decide +kernel) (by decide +kernel))))
      have f125 := (f102.other W106 (Or.inr (slot_ne (Or.inr (own_w hw 48 rfl)) (Or.inr (own_w hw 58 rfl)) (by decide) (t := .int) (t' := .long) (by decide +kernel) (by decide +kernel))))
      have f126 := (f105.wr W106)
      refine own_ret0 X106 hx hlk hret (hb hby d1_339) (by decide) (by decide) ?_
      rw [e106]
      have hlow : ∀ x, own_bit v25 x = decide (x < nn * wn) := by rw [hv25]; exact own_wbq _ _ (by rw [hv20]; exact own_mulN hN hW (by omega)) (by have := Nat.mul_le_mul hn1 hw1; omega) hcn
      have hWM : own_WM wn pn nn 0 vS v25 (own_5 (0 : Int64) (0 : Int64) (0 : Int64) (0 : Int64) (0 : Int64)) (own_5 v75 v83 v91 v99 v107) (own_5 v2 v55 v59 v63 v67) := by
        refine ⟨hRP, hUS, hlow, fun r hr => ?_⟩
        exact absurd hr (Nat.not_lt_zero _)
      exact ⟨0, _, _, _, _, _, _, _, _, _, _, _, _, _, _, _, _, _, _, by decide, hWM, rfl, N106, K106, f126, f108, f109, f110, f111, f112, f113, f114, f115, f116, f117, f118, f119, f120, Fw106, f121, f122, f123, f124, f125⟩
    · obtain rfl : jr = (1 : Int32) := Int32.toInt_inj.mp (hRR.trans (by decide))
      show own_WP _ _ _ _ _ _ _ (T4.setTop (mkF m 29 #[.val (.ref a1), .val (.int st), .val (.int w), .val (.int p'), .val (.int n'), .val (.int v2), .unset, .unset, .unset, .unset, .unset, .unset, .unset, .unset] [(.int (1 : Int32)), (.ref a1)]))
      refine own_putF (pc' := 32) X4 hx hZ hown (host := "") (Or.inl (own_w hw 15 rfl)) Via.refl e4 F_rounds E1 (Or.inr ⟨(own_w hw 16 rfl), rfl, hnm⟩) (own_w hw 2 rfl) (ty := .int) (by decide) rfl rfl (hb hby d1_29) rfl ?_
      intro T127 h127 X127 e127 W127
      have z127 : n0 ≤ h127.size := Nat.le_trans Z0 (Keep.of_wr W127).1
      have Fw127 := F_rounds.same W127
      have N127 := Fr.snoc X127 N4 g_a1
      have K127 : Keep h0 h127 [a1] := (Keep.refl h0 [a1]).wr W127 (Or.inl (List.mem_of_getElem? (i := 0) rfl))
      refine own_ldc2Long (pc' := 35) X127 hx hZ hown (own_w hw 17 rfl) (hb hby d1_32) rfl ?_
      refine own_bipush (pc' := 37) X127 hx (64 : Int32) (hb hby d1_35) rfl rfl ?_
      refine own_iloadN (pc' := 38) X127 hx (hb hby d1_37) rfl rfl ?_
      refine own_isub (pc' := 39) X127 hx (hb hby d1_38) rfl ?_
      refine own_lushr (pc' := 40) X127 hx (hb hby d1_39) rfl ?_
      obtain ⟨v128, hv128⟩ : ∃ z : Int64, z = (((-1 : Int64).toUInt64 >>> (((64 : Int32) - w) &&& 0x3f).toInt64.toUInt64).toInt64) := ⟨_, rfl⟩
      refine own_lstore (pc' := 42) (l' := #[.val (.ref a1), .val (.int st), .val (.int w), .val (.int p'), .val (.int n'), .val (.int v2), .val (.long v128), .second, .unset, .unset, .unset, .unset, .unset, .unset]) X127 hx (hb hby d1_40) hv128 rfl rfl ?_
      refine own_lconst0 (pc' := 43) X127 hx (hb hby d1_42) rfl ?_
      refine own_lstore (pc' := 45) (l' := #[.val (.ref a1), .val (.int st), .val (.int w), .val (.int p'), .val (.int n'), .val (.int v2), .val (.long v128), .second, .val (.long (0 : Int64)), .second, .unset, .unset, .unset, .unset]) X127 hx (hb hby d1_43) rfl rfl rfl ?_
      refine own_iconst (pc' := 46) X127 hx (0 : Int32) (hb hby d1_45) rfl rfl ?_
      refine own_istore (pc' := 48) (l' := #[.val (.ref a1), .val (.int st), .val (.int w), .val (.int p'), .val (.int n'), .val (.int v2), .val (.long v128), .second, .val (.long (0 : Int64)), .second, .val (.int (0 : Int32)), .unset, .unset, .unset]) X127 hx (hb hby d1_46) rfl rfl rfl ?_
      have hwb : ∀ x, own_bit v128 x = decide (x < wn) := by rw [hv128]; exact own_wbq w wn hW hw1 (by omega)
      refine lpS hw hx hby hml hown hZ X127 a1 st w p' n' v2 v128 wn pn nn hW hP hN hw1 hwp hsp hwb (fun vS runS hUS => ?_) _ 0 0 0 rfl (Nat.zero_le _) (by decide) (own_Up0 _ _ _ _)
      show own_WP _ _ _ _ _ _ _ (T127.setTop (mkF m 73 #[.val (.ref a1), .val (.int st), .val (.int w), .val (.int p'), .val (.int n'), .val (.int v2), .val (.long v128), .second, .val (.long vS), .second, .val (.int runS), .unset, .unset, .unset] []))
      refine own_aloadN (pc' := 74) X127 hx (hb hby d1_73) rfl rfl rfl ?_
      refine own_iloadN (pc' := 75) X127 hx (hb hby d1_74) rfl rfl ?_
      have f129 := (F_start.other W127 (Or.inr (slot_ne (Or.inr (own_w hw 19 rfl)) (Or.inr (own_w hw 16 rfl)) (by decide) (t := .int) (t' := .int) (by decide +kernel) (by decide +kernel))))
      have f130 := (E1.wr W127)
      refine own_putF (pc' := 78) X127 hx hZ hown (host := "") (Or.inl (own_w hw 18 rfl)) Via.refl e127 f129 f130 (Or.inr ⟨(own_w hw 19 rfl), rfl, hnm⟩) (own_w hw 2 rfl) (ty := .int) (by decide) rfl rfl (hb hby d1_75) rfl ?_
      intro T131 h131 X131 e131 W131
      have z131 : n0 ≤ h131.size := Nat.le_trans z127 (Keep.of_wr W131).1
      have Fw131 := f129.same W131
      have N131 := Fr.snoc X131 N127 g_a1
      have K131 : Keep h0 h131 [a1] := K127.wr W131 (Or.inl (List.mem_of_getElem? (i := 0) rfl))
      refine own_aloadN (pc' := 79) X131 hx (hb hby d1_78) rfl rfl rfl ?_
      refine own_lload (pc' := 81) X131 hx (hb hby d1_79) rfl rfl ?_
      have f132 := ((F_runs.other W127 (Or.inr (slot_ne (Or.inr (own_w hw 21 rfl)) (Or.inr (own_w hw 16 rfl)) (by decide) (t := .long) (t' := .int) (by decide +kernel) (by decide +kernel)))).other W131 (Or.inr (slot_ne (Or.inr (own_w hw 21 rfl)) (Or.inr (own_w hw 19 rfl)) (by decide) (t := .long) (t' := .int) (by decide +kernel) (by decide +kernel))))
      have f133 := (f130.wr W131)
      refine own_putF (pc' := 84) X131 hx hZ hown (host := "") (Or.inl (own_w hw 20 rfl)) Via.refl e131 f132 f133 (Or.inr ⟨(own_w hw 21 rfl), rfl, hnm⟩) (own_w hw 2 rfl) (ty := .long) (by decide) rfl rfl (hb hby d1_81) rfl ?_
      intro T134 h134 X134 e134 W134
      have z134 : n0 ≤ h134.size := Nat.le_trans z131 (Keep.of_wr W134).1
      have Fw134 := f132.same W134
      have N134 := Fr.snoc X134 N131 g_a1
      have K134 : Keep h0 h134 [a1] := K131.wr W134 (Or.inl (List.mem_of_getElem? (i := 0) rfl))
      refine own_aloadN (pc' := 85) X134 hx (hb hby d1_84) rfl rfl rfl ?_
      refine own_lload (pc' := 87) X134 hx (hb hby d1_85) rfl rfl ?_
      refine own_iloadN (pc' := 88) X134 hx (hb hby d1_87) rfl rfl ?_
      refine own_lshl (pc' := 89) X134 hx (hb hby d1_88) rfl ?_
      have f135 := (((F_mask.other W127 (Or.inr (slot_ne (Or.inr (own_w hw 23 rfl)) (Or.inr (own_w hw 16 rfl)) (by decide) (t := .long) (t' := .int) (by decide +kernel) (by decide +kernel)))).other W131 (Or.inr (slot_ne (Or.inr (own_w hw 23 rfl)) (Or.inr (own_w hw 19 rfl)) (by decide) (t := .long) (t' := .int) (by decide +kernel) (by decide +kernel)))).other W134 (Or.inr (slot_ne (Or.inr (own_w hw 23 rfl)) (Or.inr (own_w hw 21 rfl)) (by decide) (t := .long) (t' := .long) (by decide +kernel) (by decide +kernel))))
      have f136 := (f133.wr W134)
      obtain ⟨v138, hv138⟩ : ∃ z : Int64, z = (vS <<< (st &&& 0x3f).toInt64) := ⟨_, rfl⟩
      rw [← hv138]
      refine own_putF (pc' := 92) X134 hx hZ hown (host := "") (Or.inl (own_w hw 22 rfl)) Via.refl e134 f135 f136 (Or.inr ⟨(own_w hw 23 rfl), rfl, hnm⟩) (own_w hw 2 rfl) (ty := .long) (by decide) rfl rfl (hb hby d1_89) rfl ?_
      intro T137 h137 X137 e137 W137
      have z137 : n0 ≤ h137.size := Nat.le_trans z134 (Keep.of_wr W137).1
      have Fw137 := f135.same W137
      have N137 := Fr.snoc X137 N134 g_a1
      have K137 : Keep h0 h137 [a1] := K134.wr W137 (Or.inl (List.mem_of_getElem? (i := 0) rfl))
      refine own_aloadN (pc' := 93) X137 hx (hb hby d1_92) rfl rfl rfl ?_
      refine own_iload (pc' := 95) X137 hx (hb hby d1_93) rfl rfl ?_
      refine own_iloadN (pc' := 96) X137 hx (hb hby d1_95) rfl rfl ?_
      refine own_imul (pc' := 97) X137 hx (hb hby d1_96) rfl ?_
      have f139 := ((((F_count.other W127 (Or.inr (slot_ne (Or.inr (own_w hw 25 rfl)) (Or.inr (own_w hw 16 rfl)) (by decide) (t := .int) (t' := .int) (by decide +kernel) (by decide +kernel)))).other W131 (Or.inr (slot_ne (Or.inr (own_w hw 25 rfl)) (Or.inr (own_w hw 19 rfl)) (by decide) (t := .int) (t' := .int) (by decide +kernel) (by decide +kernel)))).other W134 (Or.inr (slot_ne (Or.inr (own_w hw 25 rfl)) (Or.inr (own_w hw 21 rfl)) (by decide) (t := .int) (t' := .long) (by decide +kernel) (by decide +kernel)))).other W137 (Or.inr (slot_ne (Or.inr (own_w hw 25 rfl)) (Or.inr (own_w hw 23 rfl)) (by decide) (t := .int) (t' := .long) (by decide +kernel) (by decide +kernel))))
      have f140 := (f136.wr W137)
      obtain ⟨v142, hv142⟩ : ∃ z : Int32, z = (n' * w) := ⟨_, rfl⟩
      rw [← hv142]
      refine own_putF (pc' := 100) X137 hx hZ hown (host := "") (Or.inl (own_w hw 24 rfl)) Via.refl e137 f139 f140 (Or.inr ⟨(own_w hw 25 rfl), rfl, hnm⟩) (own_w hw 2 rfl) (ty := .int) (by decide) rfl rfl (hb hby d1_97) rfl ?_
      intro T141 h141 X141 e141 W141
      have z141 : n0 ≤ h141.size := Nat.le_trans z137 (Keep.of_wr W141).1
      have Fw141 := f139.same W141
      have N141 := Fr.snoc X141 N137 g_a1
      have K141 : Keep h0 h141 [a1] := K137.wr W141 (Or.inl (List.mem_of_getElem? (i := 0) rfl))
      refine own_aloadN (pc' := 101) X141 hx (hb hby d1_100) rfl rfl rfl ?_
      refine own_ldc2Long (pc' := 104) X141 hx hZ hown (own_w hw 17 rfl) (hb hby d1_101) rfl ?_
      refine own_bipush (pc' := 106) X141 hx (64 : Int32) (hb hby d1_104) rfl rfl ?_
      refine own_aloadN (pc' := 107) X141 hx (hb hby d1_106) rfl rfl rfl ?_
      refine own_getF (pc' := 110) X141 hx hZ hown (host := "") (Or.inl (own_w hw 24 rfl)) Via.refl e141 Fw141 (hb hby d1_107) rfl ?_
      intro T143 X143 e143
      refine own_isub (pc' := 111) X143 hx (hb hby d1_110) rfl ?_
      refine own_lushr (pc' := 112) X143 hx (hb hby d1_111) rfl ?_
      have f144 := (((((F_low.other W127 (Or.inr (slot_ne (Or.inr (own_w hw 27 rfl)) (Or.inr (own_w hw 16 rfl)) (by decide) (t := .long) (t' := .int) (by decide +kernel) (by decide +kernel)))).other W131 (Or.inr (slot_ne (Or.inr (own_w hw 27 rfl)) (Or.inr (own_w hw 19 rfl)) (by decide) (t := .long) (t' := .int) (by decide +kernel) (by decide +kernel)))).other W134 (Or.inr (slot_ne (Or.inr (own_w hw 27 rfl)) (Or.inr (own_w hw 21 rfl)) (by decide) (t := .long) (t' := .long) (by decide +kernel) (by decide +kernel)))).other W137 (Or.inr (slot_ne (Or.inr (own_w hw 27 rfl)) (Or.inr (own_w hw 23 rfl)) (by decide) (t := .long) (t' := .long) (by decide +kernel) (by decide +kernel)))).other W141 (Or.inr (slot_ne (Or.inr (own_w hw 27 rfl)) (Or.inr (own_w hw 25 rfl)) (by decide) (t := .long) (t' := .int) (by decide +kernel) (by decide +kernel))))
      have f145 := (f140.wr W141)
      obtain ⟨v147, hv147⟩ : ∃ z : Int64, z = (((-1 : Int64).toUInt64 >>> (((64 : Int32) - v142) &&& 0x3f).toInt64.toUInt64).toInt64) := ⟨_, rfl⟩
      rw [← hv147]
      refine own_putF (pc' := 115) X143 hx hZ hown (host := "") (Or.inl (own_w hw 26 rfl)) Via.refl e143 f144 f145 (Or.inr ⟨(own_w hw 27 rfl), rfl, hnm⟩) (own_w hw 2 rfl) (ty := .long) (by decide) rfl rfl (hb hby d1_112) rfl ?_
      intro T146 h146 X146 e146 W146
      have z146 : n0 ≤ h146.size := Nat.le_trans z141 (Keep.of_wr W146).1
      have Fw146 := f144.same W146
      have N146 := Fr.snoc X146 N141 g_a1
      have K146 : Keep h0 h146 [a1] := K141.wr W146 (Or.inl (List.mem_of_getElem? (i := 0) rfl))
      refine own_iconst (pc' := 116) X146 hx (5 : Int32) (hb hby d1_115) rfl rfl ?_
      refine own_newP (pc' := 118) (cap := 5) X146 hx hZ (own_w hw 28 rfl) e146 (hb hby d1_116) (by decide) (by decide) (by decide) (by decide) (by decide) rfl ?_
      intro T148 h148 k148 b148 g148 X148 e148 E148 A148
      have f149 := (f145.wr W146)
      have ne_a1_b148 : a1 ≠ b148 := Nat.ne_of_lt (Nat.lt_of_lt_of_le f149.lt (Nat.le_of_eq g148.symm))
      have ne_b148_a1 := ne_a1_b148.symm
      have g_b148 : n0 ≤ b148 := Nat.le_trans z146 (Nat.le_of_eq g148.symm)
      have sz_b148 : h0.size ≤ b148 := Nat.le_trans K146.1 (Nat.le_of_eq g148.symm)
      have z148 : n0 ≤ h148.size := Nat.le_trans z146 E148.1
      have K148 : Keep h0 h148 [a1] := K146.ext E148
      have V148 : Arv Z h148 b148 k148 .long (5 : Int32) [(.long (0 : Int64)), (.long (0 : Int64)), (.long (0 : Int64)), (.long (0 : Int64)), (.long (0 : Int64))] (.long (0 : Int64)) := (Arv.new A148 (by decide)).pad (pad_rep [] (.long (0 : Int64)) 5)
      refine own_astore (pc' := 120) (l' := #[.val (.ref a1), .val (.int st), .val (.int w), .val (.int p'), .val (.int n'), .val (.int v2), .val (.long v128), .second, .val (.long vS), .second, .val (.ref b148), .unset, .unset, .unset]) X148 hx (hb hby d1_118) rfl rfl rfl ?_
      refine own_iconst (pc' := 121) X148 hx (0 : Int32) (hb hby d1_120) rfl rfl ?_
      refine own_istore (pc' := 123) (l' := #[.val (.ref a1), .val (.int st), .val (.int w), .val (.int p'), .val (.int n'), .val (.int v2), .val (.long v128), .second, .val (.long vS), .second, .val (.ref b148), .val (.int (0 : Int32)), .unset, .unset]) X148 hx (hb hby d1_121) rfl rfl rfl ?_
      refine own_iload (pc' := 125) X148 hx (hb hby d1_123) rfl rfl ?_
      refine own_aloadN (pc' := 126) X148 hx (hb hby d1_125) rfl rfl rfl ?_
      have f150 := ((((((Fw127.other W131 (Or.inr (slot_ne (Or.inr (own_w hw 16 rfl)) (Or.inr (own_w hw 19 rfl)) (by decide) (t := .int) (t' := .int) (by decide +kernel) (by decide +kernel)))).other W134 (Or.inr (slot_ne (Or.inr (own_w hw 16 rfl)) (Or.inr (own_w hw 21 rfl)) (by decide) (t := .int) (t' := .long) (by decide +kernel) (by decide +kernel)))).other W137 (Or.inr (slot_ne (Or.inr (own_w hw 16 rfl)) (Or.inr (own_w hw 23 rfl)) (by decide) (t := .int) (t' := .long) (by decide +kernel) (by decide +kernel)))).other W141 (Or.inr (slot_ne (Or.inr (own_w hw 16 rfl)) (Or.inr (own_w hw 25 rfl)) (by decide) (t := .int) (t' := .int) (by decide +kernel) (by decide +kernel)))).other W146 (Or.inr (slot_ne (Or.inr (own_w hw 16 rfl)) (Or.inr (own_w hw 27 rfl)) (by decide) (t := .int) (t' := .long) (by decide +kernel) (by decide +kernel)))).ext E148)
      refine own_getF (pc' := 129) X148 hx hZ hown (host := "") (Or.inl (own_w hw 15 rfl)) Via.refl e148 f150 (hb hby d1_126) rfl ?_
      intro T151 X151 e151
      refine own_icmp_ge (pt := 196) (pf := 132) X151 hx (hb hby d1_129) rfl (by decide) rfl (fun hc129 => absurd (by decide) hc129) (fun hc129 => ?_)
      refine own_iconst (pc' := 133) X151 hx (0 : Int32) (hb hby d1_132) rfl rfl ?_
      refine own_istore (pc' := 135) (l' := #[.val (.ref a1), .val (.int st), .val (.int w), .val (.int p'), .val (.int n'), .val (.int v2), .val (.long v128), .second, .val (.long vS), .second, .val (.ref b148), .val (.int (0 : Int32)), .val (.int (0 : Int32)), .unset]) X151 hx (hb hby d1_133) rfl rfl rfl ?_
      refine lpI hw hx hby hml hown hZ a1 st w p' n' v2 v128 wn pn nn hW hP hN hw1 hwp hsp hwb (pn - wn) hG hg vS b148 (0 : Int32) 0 (by decide) (by decide) k148 [(.long (0 : Int64)), (.long (0 : Int64)), (.long (0 : Int64)), (.long (0 : Int64)), (.long (0 : Int64))] rfl h148 g_b148 (fun T152 h152 L152 run152 mv152 sl152 X152 e152 N152 K152 V152 hU152 hsl152 => ?_) _ T151 h148 _ 0 0 .unset 0 rfl (Nat.zero_le _) (by decide) X151 e151 N146 (Keep.refl _ _) V148 (own_Up0 _ _ _ _) (Or.inl rfl)
      have z152 : n0 ≤ h152.size := Nat.le_trans z148 K152.1
      have KK152 : Keep h0 h152 [a1] := K148.trans K152 (allS (Or.inr sz_b148) all0)
      have V152 : Arv Z h152 b148 k148 .long 5 [(.long mv152), (.long (0 : Int64)), (.long (0 : Int64)), (.long (0 : Int64)), (.long (0 : Int64))] (.long 0) := V152
      show own_WP _ _ _ _ _ _ _ (T152.setTop (mkF m 190 #[.val (.ref a1), .val (.int st), .val (.int w), .val (.int p'), .val (.int n'), .val (.int v2), .val (.long v128), .second, .val (.long vS), .second, .val (.ref b148), .val (.int (0 : Int32)), .val (.int run152), sl152] []))
      refine own_iinc (pc' := 193) (l' := #[.val (.ref a1), .val (.int st), .val (.int w), .val (.int p'), .val (.int n'), .val (.int v2), .val (.long v128), .second, .val (.long vS), .second, .val (.ref b148), .val (.int (1 : Int32)), .val (.int run152), sl152]) X152 hx (hb hby d1_190) rfl (by decide) rfl rfl ?_
      refine own_goto (pc' := 123) X152 hx (hb hby d1_193) (by decide) rfl ?_
      refine own_iload (pc' := 125) X152 hx (hb hby d1_123) rfl rfl ?_
      refine own_aloadN (pc' := 126) X152 hx (hb hby d1_125) rfl rfl rfl ?_
      have f153 := (f150.keep K152 (ninS ne_a1_b148 nin0))
      refine own_getF (pc' := 129) X152 hx hZ hown (host := "") (Or.inl (own_w hw 15 rfl)) Via.refl e152 f153 (hb hby d1_126) rfl ?_
      intro T154 X154 e154
      refine own_icmp_ge (pt := 196) (pf := 132) X154 hx (hb hby d1_129) rfl (by decide) rfl (fun hc129_1 => ?_) (fun hc129_1 => absurd hc129_1 (by decide))
      refine own_aloadN (pc' := 197) X154 hx (hb hby d1_196) rfl rfl rfl ?_
      refine own_aload (pc' := 199) X154 hx (hb hby d1_197) rfl rfl rfl ?_
      refine own_iconst (pc' := 200) X154 hx (0 : Int32) (hb hby d1_199) rfl rfl ?_
      refine own_laload (pc' := 201) (v := (.long mv152)) X154 hx hZ e154 V152 ⟨by decide, by decide⟩ rfl (hb hby d1_200) rfl ?_
      have f155 := ((((((((F_moving0.other W127 (Or.inr (slot_ne (Or.inr (own_w hw 30 rfl)) (Or.inr (own_w hw 16 rfl)) (by decide) (t := .long) (t' := .int) (by decide +kernel) (by decide +kernel)))).other W131 (Or.inr (slot_ne (Or.inr (own_w hw 30 rfl)) (Or.inr (own_w hw 19 rfl)) (by decide) (t := .long) (t' := .int) (by decide +kernel) (by decide +kernel)))).other W134 (Or.inr (slot_ne (Or.inr (own_w hw 30 rfl)) (Or.inr (own_w hw 21 rfl)) (by decide) (t := .long) (t' := .long) (by decide +kernel) (by decide +kernel)))).other W137 (Or.inr (slot_ne (Or.inr (own_w hw 30 rfl)) (Or.inr (own_w hw 23 rfl)) (by decide) (t := .long) (t' := .long) (by decide +kernel) (by decide +kernel)))).other W141 (Or.inr (slot_ne (Or.inr (own_w hw 30 rfl)) (Or.inr (own_w hw 25 rfl)) (by decide) (t := .long) (t' := .int) (by decide +kernel) (by decide +kernel)))).other W146 (Or.inr (slot_ne (Or.inr (own_w hw 30 rfl)) (Or.inr (own_w hw 27 rfl)) (by decide) (t := .long) (t' := .long) (by decide +kernel) (by decide +kernel)))).ext E148).keep K152 (ninS ne_a1_b148 nin0))
      have f156 := ((f149.ext E148).keep K152)
      refine own_putF (pc' := 204) X154 hx hZ hown (host := "") (Or.inl (own_w hw 29 rfl)) Via.refl e154 f155 f156 (Or.inr ⟨(own_w hw 30 rfl), rfl, hnm⟩) (own_w hw 2 rfl) (ty := .long) (by decide) rfl rfl (hb hby d1_201) rfl ?_
      intro T157 h157 X157 e157 W157
      have z157 : n0 ≤ h157.size := Nat.le_trans z152 (Keep.of_wr W157).1
      have Fw157 := f155.same W157
      have N157 := Fr.snoc X157 N152 g_a1
      have K157 : Keep h0 h157 [a1] := KK152.wr W157 (Or.inl (List.mem_of_getElem? (i := 0) rfl))
      refine own_aloadN (pc' := 205) X157 hx (hb hby d1_204) rfl rfl rfl ?_
      refine own_aload (pc' := 207) X157 hx (hb hby d1_205) rfl rfl rfl ?_
      refine own_iconst (pc' := 208) X157 hx (1 : Int32) (hb hby d1_207) rfl rfl ?_
      have f158 := (V152.other W157 ne_b148_a1)
      refine own_laload (pc' := 209) (v := (.long (0 : Int64))) X157 hx hZ e157 f158 ⟨by decide, by decide⟩ rfl (hb hby d1_208) rfl ?_
      have f159 := (((((((((F_moving1.other W127 (Or.inr (slot_ne (Or.inr (own_w hw 32 rfl)) (Or.inr (own_w hw 16 rfl)) (by decide) (t := .long) (t' := .int) (by decide +kernel) (by decide +kernel)))).other W131 (Or.inr (slot_ne (Or.inr (own_w hw 32 rfl)) (Or.inr (own_w hw 19 rfl)) (by decide) (t := .long) (t' := .int) (by decide +kernel) (by decide +kernel)))).other W134 (Or.inr (slot_ne (Or.inr (own_w hw 32 rfl)) (Or.inr (own_w hw 21 rfl)) (by decide) (t := .long) (t' := .long) (by decide +kernel) (by decide +kernel)))).other W137 (Or.inr (slot_ne (Or.inr (own_w hw 32 rfl)) (Or.inr (own_w hw 23 rfl)) (by decide) (t := .long) (t' := .long) (by decide +kernel) (by decide +kernel)))).other W141 (Or.inr (slot_ne (Or.inr (own_w hw 32 rfl)) (Or.inr (own_w hw 25 rfl)) (by decide) (t := .long) (t' := .int) (by decide +kernel) (by decide +kernel)))).other W146 (Or.inr (slot_ne (Or.inr (own_w hw 32 rfl)) (Or.inr (own_w hw 27 rfl)) (by decide) (t := .long) (t' := .long) (by decide +kernel) (by decide +kernel)))).ext E148).keep K152 (ninS ne_a1_b148 nin0)).other W157 (Or.inr (slot_ne (Or.inr (own_w hw 32 rfl)) (Or.inr (own_w hw 30 rfl)) (by decide) (t := .long) (t' := .long) (by decide +kernel) (by decide +kernel))))
      have f160 := (f156.wr W157)
      refine own_putF (pc' := 212) X157 hx hZ hown (host := "") (Or.inl (own_w hw 31 rfl)) Via.refl e157 f159 f160 (Or.inr ⟨(own_w hw 32 rfl), rfl, hnm⟩) (own_w hw 2 rfl) (ty := .long) (by decide) rfl rfl (hb hby d1_209) rfl ?_
      intro T161 h161 X161 e161 W161
      have z161 : n0 ≤ h161.size := Nat.le_trans z157 (Keep.of_wr W161).1
      have Fw161 := f159.same W161
      have N161 := Fr.snoc X161 N157 g_a1
      have K161 : Keep h0 h161 [a1] := K157.wr W161 (Or.inl (List.mem_of_getElem? (i := 0) rfl))
      refine own_aloadN (pc' := 213) X161 hx (hb hby d1_212) rfl rfl rfl ?_
      refine own_aload (pc' := 215) X161 hx (hb hby d1_213) rfl rfl rfl ?_
      refine own_iconst (pc' := 216) X161 hx (2 : Int32) (hb hby d1_215) rfl rfl ?_
      have f162 := (f158.other W161 ne_b148_a1)
      refine own_laload (pc' := 217) (v := (.long (0 : Int64))) X161 hx hZ e161 f162 ⟨by decide, by decide⟩ rfl (hb hby d1_216) rfl ?_
      have f163 := ((((((((((F_moving2.other W127 (Or.inr (slot_ne (Or.inr (own_w hw 34 rfl)) (Or.inr (own_w hw 16 rfl)) (by decide) (t := .long) (t' := .int) (by decide +kernel) (by decide +kernel)))).other W131 (Or.inr (slot_ne (Or.inr (own_w hw 34 rfl)) (Or.inr (own_w hw 19 rfl)) (by decide) (t := .long) (t' := .int) (by decide +kernel) (by decide +kernel)))).other W134 (Or.inr (slot_ne (Or.inr (own_w hw 34 rfl)) (Or.inr (own_w hw 21 rfl)) (by decide) (t := .long) (t' := .long) (by decide +kernel) (by decide +kernel)))).other W137 (Or.inr (slot_ne (Or.inr (own_w hw 34 rfl)) (Or.inr (own_w hw 23 rfl)) (by decide) (t := .long) (t' := .long) (by decide +kernel) (by decide +kernel)))).other W141 (Or.inr (slot_ne (Or.inr (own_w hw 34 rfl)) (Or.inr (own_w hw 25 rfl)) (by decide) (t := .long) (t' := .int) (by decide +kernel) (by decide +kernel)))).other W146 (Or.inr (slot_ne (Or.inr (own_w hw 34 rfl)) (Or.inr (own_w hw 27 rfl)) (by decide) (t := .long) (t' := .long) (by decide +kernel) (by decide +kernel)))).ext E148).keep K152 (ninS ne_a1_b148 nin0)).other W157 (Or.inr (slot_ne (Or.inr (own_w hw 34 rfl)) (Or.inr (own_w hw 30 rfl)) (by decide) (t := .long) (t' := .long) (by decide +kernel) (by decide +kernel)))).other W161 (Or.inr (slot_ne (Or.inr (own_w hw 34 rfl)) (Or.inr (own_w hw 32 rfl)) (by decide) (t := .long) (t' := .long) (by decide +kernel) (by decide +kernel))))
      have f164 := (f160.wr W161)
      refine own_putF (pc' := 220) X161 hx hZ hown (host := "") (Or.inl (own_w hw 33 rfl)) Via.refl e161 f163 f164 (Or.inr ⟨(own_w hw 34 rfl), rfl, hnm⟩) (own_w hw 2 rfl) (ty := .long) (by decide) rfl rfl (hb hby d1_217) rfl ?_
      intro T165 h165 X165 e165 W165
      have z165 : n0 ≤ h165.size := Nat.le_trans z161 (Keep.of_wr W165).1
      have Fw165 := f163.same W165
      have N165 := Fr.snoc X165 N161 g_a1
      have K165 : Keep h0 h165 [a1] := K161.wr W165 (Or.inl (List.mem_of_getElem? (i := 0) rfl))
      refine own_aloadN (pc' := 221) X165 hx (hb hby d1_220) rfl rfl rfl ?_
      refine own_aload (pc' := 223) X165 hx (hb hby d1_221) rfl rfl rfl ?_
      refine own_iconst (pc' := 224) X165 hx (3 : Int32) (hb hby d1_223) rfl rfl ?_
      have f166 := (f162.other W165 ne_b148_a1)
      refine own_laload (pc' := 225) (v := (.long (0 : Int64))) X165 hx hZ e165 f166 ⟨by decide, by decide⟩ rfl (hb hby d1_224) rfl ?_
      have f167 := (((((((((((F_moving3.other W127 (Or.inr (slot_ne (Or.inr (own_w hw 36 rfl)) (Or.inr (own_w hw 16 rfl)) (by decide) (t := .long) (t' := .int) (by decide +kernel) (by decide +kernel)))).other W131 (Or.inr (slot_ne (Or.inr (own_w hw 36 rfl)) (Or.inr (own_w hw 19 rfl)) (by decide) (t := .long) (t' := .int) (by decide +kernel) (by decide +kernel)))).other W134 (Or.inr (slot_ne (Or.inr (own_w hw 36 rfl)) (Or.inr (own_w hw 21 rfl)) (by decide) (t := .long) (t' := .long) (by decide +kernel) (by decide +kernel)))).other W137 (Or.inr (slot_ne (Or.inr (own_w hw 36 rfl)) (Or.inr (own_w hw 23 rfl)) (by decide) (t := .long) (t' := .long) (by decide +kernel) (by decide +kernel)))).other W141 (Or.inr (slot_ne (Or.inr (own_w hw 36 rfl)) (Or.inr (own_w hw 25 rfl)) (by decide) (t := .long) (t' := .int) (by decide +kernel) (by decide +kernel)))).other W146 (Or.inr (slot_ne (Or.inr (own_w hw 36 rfl)) (Or.inr (own_w hw 27 rfl)) (by decide) (t := .long) (t' := .long) (by decide +kernel) (by decide +kernel)))).ext E148).keep K152 (ninS ne_a1_b148 nin0)).other W157 (Or.inr (slot_ne (Or.inr (own_w hw 36 rfl)) (Or.inr (own_w hw 30 rfl)) (by decide) (t := .long) (t' := .long) (by decide +kernel) (by decide +kernel)))).other W161 (Or.inr (slot_ne (Or.inr (own_w hw 36 rfl)) (Or.inr (own_w hw 32 rfl)) (by decide) (t := .long) (t' := .long) (by decide +kernel) (by decide +kernel)))).other W165 (Or.inr (slot_ne (Or.inr (own_w hw 36 rfl)) (Or.inr (own_w hw 34 rfl)) (by decide) (t := .long) (t' := .long) (by decide +kernel) (by decide +kernel))))
      have f168 := (f164.wr W165)
      refine own_putF (pc' := 228) X165 hx hZ hown (host := "") (Or.inl (own_w hw 35 rfl)) Via.refl e165 f167 f168 (Or.inr ⟨(own_w hw 36 rfl), rfl, hnm⟩) (own_w hw 2 rfl) (ty := .long) (by decide) rfl rfl (hb hby d1_225) rfl ?_
      intro T169 h169 X169 e169 W169
      have z169 : n0 ≤ h169.size := Nat.le_trans z165 (Keep.of_wr W169).1
      have Fw169 := f167.same W169
      have N169 := Fr.snoc X169 N165 g_a1
      have K169 : Keep h0 h169 [a1] := K165.wr W169 (Or.inl (List.mem_of_getElem? (i := 0) rfl))
      refine own_aloadN (pc' := 229) X169 hx (hb hby d1_228) rfl rfl rfl ?_
      refine own_aload (pc' := 231) X169 hx (hb hby d1_229) rfl rfl rfl ?_
      refine own_iconst (pc' := 232) X169 hx (4 : Int32) (hb hby d1_231) rfl rfl ?_
      have f170 := (f166.other W169 ne_b148_a1)
      refine own_laload (pc' := 233) (v := (.long (0 : Int64))) X169 hx hZ e169 f170 ⟨by decide, by decide⟩ rfl (hb hby d1_232) rfl ?_
      have f171 := ((((((((((((F_moving4.other W127 (Or.inr (slot_ne (Or.inr (own_w hw 38 rfl)) (Or.inr (own_w hw 16 rfl)) (by decide) (t := .long) (t' := .int) (by decide +kernel) (by decide +kernel)))).other W131 (Or.inr (slot_ne (Or.inr (own_w hw 38 rfl)) (Or.inr (own_w hw 19 rfl)) (by decide) (t := .long) (t' := .int) (by decide +kernel) (by decide +kernel)))).other W134 (Or.inr (slot_ne (Or.inr (own_w hw 38 rfl)) (Or.inr (own_w hw 21 rfl)) (by decide) (t := .long) (t' := .long) (by decide +kernel) (by decide +kernel)))).other W137 (Or.inr (slot_ne (Or.inr (own_w hw 38 rfl)) (Or.inr (own_w hw 23 rfl)) (by decide) (t := .long) (t' := .long) (by decide +kernel) (by decide +kernel)))).other W141 (Or.inr (slot_ne (Or.inr (own_w hw 38 rfl)) (Or.inr (own_w hw 25 rfl)) (by decide) (t := .long) (t' := .int) (by decide +kernel) (by decide +kernel)))).other W146 (Or.inr (slot_ne (Or.inr (own_w hw 38 rfl)) (Or.inr (own_w hw 27 rfl)) (by decide) (t := .long) (t' := .long) (by decide +kernel) (by decide +kernel)))).ext E148).keep K152 (ninS ne_a1_b148 nin0)).other W157 (Or.inr (slot_ne (Or.inr (own_w hw 38 rfl)) (Or.inr (own_w hw 30 rfl)) (by decide) (t := .long) (t' := .long) (by decide +kernel) (by decide +kernel)))).other W161 (Or.inr (slot_ne (Or.inr (own_w hw 38 rfl)) (Or.inr (own_w hw 32 rfl)) (by decide) (t := .long) (t' := .long) (by decide +kernel) (by decide +kernel)))).other W165 (Or.inr (slot_ne (Or.inr (own_w hw 38 rfl)) (Or.inr (own_w hw 34 rfl)) (by decide) (t := .long) (t' := .long) (by decide +kernel) (by decide +kernel)))).other W169 (Or.inr (slot_ne (Or.inr (own_w hw 38 rfl)) (Or.inr (own_w hw 36 rfl)) (by decide) (t := .long) (t' := .long) (by decide +kernel) (by decide +kernel))))
      have f172 := (f168.wr W169)
      refine own_putF (pc' := 236) X169 hx hZ hown (host := "") (Or.inl (own_w hw 37 rfl)) Via.refl e169 f171 f172 (Or.inr ⟨(own_w hw 38 rfl), rfl, hnm⟩) (own_w hw 2 rfl) (ty := .long) (by decide) rfl rfl (hb hby d1_233) rfl ?_
      intro T173 h173 X173 e173 W173
      have z173 : n0 ≤ h173.size := Nat.le_trans z169 (Keep.of_wr W173).1
      have Fw173 := f171.same W173
      have N173 := Fr.snoc X173 N169 g_a1
      have K173 : Keep h0 h173 [a1] := K169.wr W173 (Or.inl (List.mem_of_getElem? (i := 0) rfl))
      refine own_aloadN (pc' := 237) X173 hx (hb hby d1_236) rfl rfl rfl ?_
      refine own_iload (pc' := 239) X173 hx (hb hby d1_237) rfl rfl ?_
      have f174 := (((((((((((((F_distance0.other W127 (Or.inr (slot_ne (Or.inr (own_w hw 40 rfl)) (Or.inr (own_w hw 16 rfl)) (by decide) (t := .int) (t' := .int) (by decide +kernel) (by decide +kernel)))).other W131 (Or.inr (slot_ne (Or.inr (own_w hw 40 rfl)) (Or.inr (own_w hw 19 rfl)) (by decide) (t := .int) (t' := .int) (by decide +kernel) (by decide +kernel)))).other W134 (Or.inr (slot_ne (Or.inr (own_w hw 40 rfl)) (Or.inr (own_w hw 21 rfl)) (by decide) (t := .int) (t' := .long) (by decide +kernel) (by decide +kernel)))).other W137 (Or.inr (slot_ne (Or.inr (own_w hw 40 rfl)) (Or.inr (own_w hw 23 rfl)) (by decide) (t := .int) (t' := .long) (by decide +kernel) (by decide +kernel)))).other W141 (Or.inr (slot_ne (Or.inr (own_w hw 40 rfl)) (Or.inr (own_w hw 25 rfl)) (by decide) (t := .int) (t' := .int) (by decide +kernel) (by decide +kernel)))).other W146 (Or.inr (slot_ne (Or.inr (own_w hw 40 rfl)) (Or.inr (own_w hw 27 rfl)) (by decide) (t := .int) (t' := .long) (by decide +kernel) (by decide +kernel)))).ext E148).keep K152 (ninS ne_a1_b148 nin0)).other W157 (Or.inr (slot_ne (Or.inr (own_w hw 40 rfl)) (Or.inr (own_w hw 30 rfl)) (by decide) (t := .int) (t' := .long) (by decide +kernel) (by decide +kernel)))).other W161 (Or.inr (slot_ne (Or.inr (own_w hw 40 rfl)) (Or.inr (own_w hw 32 rfl)) (by decide) (t := .int) (t' := .long) (by decide +kernel) (by decide +kernel)))).other W165 (Or.inr (slot_ne (Or.inr (own_w hw 40 rfl)) (Or.inr (own_w hw 34 rfl)) (by decide) (t := .int) (t' := .long) (by decide +kernel) (by decide +kernel)))).other W169 (Or.inr (slot_ne (Or.inr (own_w hw 40 rfl)) (Or.inr (own_w hw 36 rfl)) (by decide) (t := .int) (t' := .long) (by decide +kernel) (by decide +kernel)))).other W173 (Or.inr (slot_ne (Or.inr (own_w hw 40 rfl)) (Or.inr (own_w hw 38 rfl)) (by decide) (t := .int) (t' := .long) (by decide +kernel) (by decide +kernel))))
      have f175 := (f172.wr W173)
      refine own_putF (pc' := 242) X173 hx hZ hown (host := "") (Or.inl (own_w hw 39 rfl)) Via.refl e173 f174 f175 (Or.inr ⟨(own_w hw 40 rfl), rfl, hnm⟩) (own_w hw 2 rfl) (ty := .int) (by decide) rfl rfl (hb hby d1_239) rfl ?_
      intro T176 h176 X176 e176 W176
      have z176 : n0 ≤ h176.size := Nat.le_trans z173 (Keep.of_wr W176).1
      have Fw176 := f174.same W176
      have N176 := Fr.snoc X176 N173 g_a1
      have K176 : Keep h0 h176 [a1] := K173.wr W176 (Or.inl (List.mem_of_getElem? (i := 0) rfl))
      refine own_aloadN (pc' := 243) X176 hx (hb hby d1_242) rfl rfl rfl ?_
      refine own_iload (pc' := 245) X176 hx (hb hby d1_243) rfl rfl ?_
      refine own_iconst (pc' := 246) X176 hx (1 : Int32) (hb hby d1_245) rfl rfl ?_
      refine own_ishl (pc' := 247) X176 hx (hb hby d1_246) rfl ?_
      have f177 := ((((((((((((((F_distance1.other W127 (Or.inr (slot_ne (Or.inr (own_w hw 42 rfl)) (Or.inr (own_w hw 16 rfl)) (by decide) (t := .int) (t' := .int) (by decide +kernel) (by decide +kernel)))).other W131 (Or.inr (slot_ne (Or.inr (own_w hw 42 rfl)) (Or.inr (own_w hw 19 rfl)) (by decide) (t := .int) (t' := .int) (by decide +kernel) (by decide +kernel)))).other W134 (Or.inr (slot_ne (Or.inr (own_w hw 42 rfl)) (Or.inr (own_w hw 21 rfl)) (by decide) (t := .int) (t' := .long) (by decide +kernel) (by decide +kernel)))).other W137 (Or.inr (slot_ne (Or.inr (own_w hw 42 rfl)) (Or.inr (own_w hw 23 rfl)) (by decide) (t := .int) (t' := .long) (by decide +kernel) (by decide +kernel)))).other W141 (Or.inr (slot_ne (Or.inr (own_w hw 42 rfl)) (Or.inr (own_w hw 25 rfl)) (by decide) (t := .int) (t' := .int) (by decide +kernel) (by decide +kernel)))).other W146 (Or.inr (slot_ne (Or.inr (own_w hw 42 rfl)) (Or.inr (own_w hw 27 rfl)) (by decide) (t := .int) (t' := .long) (by decide +kernel) (by decide +kernel)))).ext E148).keep K152 (ninS ne_a1_b148 nin0)).other W157 (Or.inr (slot_ne (Or.inr (own_w hw 42 rfl)) (Or.inr (own_w hw 30 rfl)) (by decide) (t := .int) (t' := .long) (by decide +kernel) (by decide +kernel)))).other W161 (Or.inr (slot_ne (Or.inr (own_w hw 42 rfl)) (Or.inr (own_w hw 32 rfl)) (by decide) (t := .int) (t' := .long) (by decide +kernel) (by decide +kernel)))).other W165 (Or.inr (slot_ne (Or.inr (own_w hw 42 rfl)) (Or.inr (own_w hw 34 rfl)) (by decide) (t := .int) (t' := .long) (by decide +kernel) (by decide +kernel)))).other W169 (Or.inr (slot_ne (Or.inr (own_w hw 42 rfl)) (Or.inr (own_w hw 36 rfl)) (by decide) (t := .int) (t' := .long) (by decide +kernel) (by decide +kernel)))).other W173 (Or.inr (slot_ne (Or.inr (own_w hw 42 rfl)) (Or.inr (own_w hw 38 rfl)) (by decide) (t := .int) (t' := .long) (by decide +kernel) (by decide +kernel)))).other W176 (Or.inr (slot_ne (Or.inr (own_w hw 42 rfl)) (Or.inr (own_w hw 40 rfl)) (by decide) (t := .int) (t' := .int) (by decide +kernel) (by decide +kernel))))
      have f178 := (f175.wr W176)
      obtain ⟨v180, hv180⟩ : ∃ z : Int32, z = (v2 <<< ((1 : Int32) &&& 31)) := ⟨_, rfl⟩
      rw [← hv180]
      refine own_putF (pc' := 250) X176 hx hZ hown (host := "") (Or.inl (own_w hw 41 rfl)) Via.refl e176 f177 f178 (Or.inr ⟨(own_w hw 42 rfl), rfl, hnm⟩) (own_w hw 2 rfl) (ty := .int) (by decide) rfl rfl (hb hby d1_247) rfl ?_
      intro T179 h179 X179 e179 W179
      have z179 : n0 ≤ h179.size := Nat.le_trans z176 (Keep.of_wr W179).1
      have Fw179 := f177.same W179
      have N179 := Fr.snoc X179 N176 g_a1
      have K179 : Keep h0 h179 [a1] := K176.wr W179 (Or.inl (List.mem_of_getElem? (i := 0) rfl))
      refine own_aloadN (pc' := 251) X179 hx (hb hby d1_250) rfl rfl rfl ?_
      refine own_iload (pc' := 253) X179 hx (hb hby d1_251) rfl rfl ?_
      refine own_iconst (pc' := 254) X179 hx (2 : Int32) (hb hby d1_253) rfl rfl ?_
      refine own_ishl (pc' := 255) X179 hx (hb hby d1_254) rfl ?_
      have f181 := (((((((((((((((F_distance2.other W127 (Or.inr (slot_ne (Or.inr (own_w hw 44 rfl)) (Or.inr (own_w hw 16 rfl)) (by decide) (t := .int) (t' := .int) (by decide +kernel) (by decide +kernel)))).other W131 (Or.inr (slot_ne (Or.inr (own_w hw 44 rfl)) (Or.inr (own_w hw 19 rfl)) (by decide) (t := .int) (t' := .int) (by decide +kernel) (by decide +kernel)))).other W134 (Or.inr (slot_ne (Or.inr (own_w hw 44 rfl)) (Or.inr (own_w hw 21 rfl)) (by decide) (t := .int) (t' := .long) (by decide +kernel) (by decide +kernel)))).other W137 (Or.inr (slot_ne (Or.inr (own_w hw 44 rfl)) (Or.inr (own_w hw 23 rfl)) (by decide) (t := .int) (t' := .long) (by decide +kernel) (by decide +kernel)))).other W141 (Or.inr (slot_ne (Or.inr (own_w hw 44 rfl)) (Or.inr (own_w hw 25 rfl)) (by decide) (t := .int) (t' := .int) (by decide +kernel) (by decide +kernel)))).other W146 (Or.inr (slot_ne (Or.inr (own_w hw 44 rfl)) (Or.inr (own_w hw 27 rfl)) (by decide) (t := .int) (t' := .long) (by decide +kernel) (by decide +kernel)))).ext E148).keep K152 (ninS ne_a1_b148 nin0)).other W157 (Or.inr (slot_ne (Or.inr (own_w hw 44 rfl)) (Or.inr (own_w hw 30 rfl)) (by decide) (t := .int) (t' := .long) (by decide +kernel) (by decide +kernel)))).other W161 (Or.inr (slot_ne (Or.inr (own_w hw 44 rfl)) (Or.inr (own_w hw 32 rfl)) (by decide) (t := .int) (t' := .long) (by decide +kernel) (by decide +kernel)))).other W165 (Or.inr (slot_ne (Or.inr (own_w hw 44 rfl)) (Or.inr (own_w hw 34 rfl)) (by decide) (t := .int) (t' := .long) (by decide +kernel) (by decide +kernel)))).other W169 (Or.inr (slot_ne (Or.inr (own_w hw 44 rfl)) (Or.inr (own_w hw 36 rfl)) (by decide) (t := .int) (t' := .long) (by decide +kernel) (by decide +kernel)))).other W173 (Or.inr (slot_ne (Or.inr (own_w hw 44 rfl)) (Or.inr (own_w hw 38 rfl)) (by decide) (t := .int) (t' := .long) (by decide +kernel) (by decide +kernel)))).other W176 (Or.inr (slot_ne (Or.inr (own_w hw 44 rfl)) (Or.inr (own_w hw 40 rfl)) (by decide) (t := .int) (t' := .int) (by decide +kernel) (by decide +kernel)))).other W179 (Or.inr (slot_ne (Or.inr (own_w hw 44 rfl)) (Or.inr (own_w hw 42 rfl)) (by decide) (t := .int) (t' := .int) (by decide +kernel) (by decide +kernel))))
      have f182 := (f178.wr W179)
      obtain ⟨v184, hv184⟩ : ∃ z : Int32, z = (v2 <<< ((2 : Int32) &&& 31)) := ⟨_, rfl⟩
      rw [← hv184]
      refine own_putF (pc' := 258) X179 hx hZ hown (host := "") (Or.inl (own_w hw 43 rfl)) Via.refl e179 f181 f182 (Or.inr ⟨(own_w hw 44 rfl), rfl, hnm⟩) (own_w hw 2 rfl) (ty := .int) (by decide) rfl rfl (hb hby d1_255) rfl ?_
      intro T183 h183 X183 e183 W183
      have z183 : n0 ≤ h183.size := Nat.le_trans z179 (Keep.of_wr W183).1
      have Fw183 := f181.same W183
      have N183 := Fr.snoc X183 N179 g_a1
      have K183 : Keep h0 h183 [a1] := K179.wr W183 (Or.inl (List.mem_of_getElem? (i := 0) rfl))
      refine own_aloadN (pc' := 259) X183 hx (hb hby d1_258) rfl rfl rfl ?_
      refine own_iload (pc' := 261) X183 hx (hb hby d1_259) rfl rfl ?_
      refine own_iconst (pc' := 262) X183 hx (3 : Int32) (hb hby d1_261) rfl rfl ?_
      refine own_ishl (pc' := 263) X183 hx (hb hby d1_262) rfl ?_
      have f185 := ((((((((((((((((F_distance3.other W127 (Or.inr (slot_ne (Or.inr (own_w hw 46 rfl)) (Or.inr (own_w hw 16 rfl)) (by decide) (t := .int) (t' := .int) (by decide +kernel) (by decide +kernel)))).other W131 (Or.inr (slot_ne (Or.inr (own_w hw 46 rfl)) (Or.inr (own_w hw 19 rfl)) (by decide) (t := .int) (t' := .int) (by decide +kernel) (by decide +kernel)))).other W134 (Or.inr (slot_ne (Or.inr (own_w hw 46 rfl)) (Or.inr (own_w hw 21 rfl)) (by decide) (t := .int) (t' := .long) (by decide +kernel) (by decide +kernel)))).other W137 (Or.inr (slot_ne (Or.inr (own_w hw 46 rfl)) (Or.inr (own_w hw 23 rfl)) (by decide) (t := .int) (t' := .long) (by decide +kernel) (by decide +kernel)))).other W141 (Or.inr (slot_ne (Or.inr (own_w hw 46 rfl)) (Or.inr (own_w hw 25 rfl)) (by decide) (t := .int) (t' := .int) (by decide +kernel) (by decide +kernel)))).other W146 (Or.inr (slot_ne (Or.inr (own_w hw 46 rfl)) (Or.inr (own_w hw 27 rfl)) (by decide) (t := .int) (t' := .long) (by decide +kernel) (by decide +kernel)))).ext E148).keep K152 (ninS ne_a1_b148 nin0)).other W157 (Or.inr (slot_ne (Or.inr (own_w hw 46 rfl)) (Or.inr (own_w hw 30 rfl)) (by decide) (t := .int) (t' := .long) (by decide +kernel) (by decide +kernel)))).other W161 (Or.inr (slot_ne (Or.inr (own_w hw 46 rfl)) (Or.inr (own_w hw 32 rfl)) (by decide) (t := .int) (t' := .long) (by decide +kernel) (by decide +kernel)))).other W165 (Or.inr (slot_ne (Or.inr (own_w hw 46 rfl)) (Or.inr (own_w hw 34 rfl)) (by decide) (t := .int) (t' := .long) (by decide +kernel) (by decide +kernel)))).other W169 (Or.inr (slot_ne (Or.inr (own_w hw 46 rfl)) (Or.inr (own_w hw 36 rfl)) (by decide) (t := .int) (t' := .long) (by decide +kernel) (by decide +kernel)))).other W173 (Or.inr (slot_ne (Or.inr (own_w hw 46 rfl)) (Or.inr (own_w hw 38 rfl)) (by decide) (t := .int) (t' := .long) (by decide +kernel) (by decide +kernel)))).other W176 (Or.inr (slot_ne (Or.inr (own_w hw 46 rfl)) (Or.inr (own_w hw 40 rfl)) (by decide) (t := .int) (t' := .int) (by decide +kernel) (by decide +kernel)))).other W179 (Or.inr (slot_ne (Or.inr (own_w hw 46 rfl)) (Or.inr (own_w hw 42 rfl)) (by decide) (t := .int) (t' := .int) (by decide +kernel) (by decide +kernel)))).other W183 (Or.inr (slot_ne (Or.inr (own_w hw 46 rfl)) (Or.inr (own_w hw 44 rfl)) (by decide) (t := .int) (t' := .int) (by decide +kernel) (by decide +kernel))))
      have f186 := (f182.wr W183)
      obtain ⟨v188, hv188⟩ : ∃ z : Int32, z = (v2 <<< ((3 : Int32) &&& 31)) := ⟨_, rfl⟩
      rw [← hv188]
      refine own_putF (pc' := 266) X183 hx hZ hown (host := "") (Or.inl (own_w hw 45 rfl)) Via.refl e183 f185 f186 (Or.inr ⟨(own_w hw 46 rfl), rfl, hnm⟩) (own_w hw 2 rfl) (ty := .int) (by decide) rfl rfl (hb hby d1_263) rfl ?_
      intro T187 h187 X187 e187 W187
      have z187 : n0 ≤ h187.size := Nat.le_trans z183 (Keep.of_wr W187).1
      have Fw187 := f185.same W187
      have N187 := Fr.snoc X187 N183 g_a1
      have K187 : Keep h0 h187 [a1] := K183.wr W187 (Or.inl (List.mem_of_getElem? (i := 0) rfl))
      refine own_aloadN (pc' := 267) X187 hx (hb hby d1_266) rfl rfl rfl ?_
      refine own_iload (pc' := 269) X187 hx (hb hby d1_267) rfl rfl ?_
      refine own_iconst (pc' := 270) X187 hx (4 : Int32) (hb hby d1_269) rfl rfl ?_
      refine own_ishl (pc' := 271) X187 hx (hb hby d1_270) rfl ?_
      have f189 := (((((((((((((((((F_distance4.other W127 (Or.inr (slot_ne (Or.inr (own_w hw 48 rfl)) (Or.inr (own_w hw 16 rfl)) (by decide) (t := .int) (t' := .int) (by decide +kernel) (by decide +kernel)))).other W131 (Or.inr (slot_ne (Or.inr (own_w hw 48 rfl)) (Or.inr (own_w hw 19 rfl)) (by decide) (t := .int) (t' := .int) (by decide +kernel) (by decide +kernel)))).other W134 (Or.inr (slot_ne (Or.inr (own_w hw 48 rfl)) (Or.inr (own_w hw 21 rfl)) (by decide) (t := .int) (t' := .long) (by decide +kernel) (by decide +kernel)))).other W137 (Or.inr (slot_ne (Or.inr (own_w hw 48 rfl)) (Or.inr (own_w hw 23 rfl)) (by decide) (t := .int) (t' := .long) (by decide +kernel) (by decide +kernel)))).other W141 (Or.inr (slot_ne (Or.inr (own_w hw 48 rfl)) (Or.inr (own_w hw 25 rfl)) (by decide) (t := .int) (t' := .int) (by decide +kernel) (by decide +kernel)))).other W146 (Or.inr (slot_ne (Or.inr (own_w hw 48 rfl)) (Or.inr (own_w hw 27 rfl)) (by decide) (t := .int) (t' := .long) (by decide +kernel) (by decide +kernel)))).ext E148).keep K152 (ninS ne_a1_b148 nin0)).other W157 (Or.inr (slot_ne (Or.inr (own_w hw 48 rfl)) (Or.inr (own_w hw 30 rfl)) (by decide) (t := .int) (t' := .long) (by decide +kernel) (by decide +kernel)))).other W161 (Or.inr (slot_ne (Or.inr (own_w hw 48 rfl)) (Or.inr (own_w hw 32 rfl)) (by decide) (t := .int) (t' := .long) (by decide +kernel) (by decide +kernel)))).other W165 (Or.inr (slot_ne (Or.inr (own_w hw 48 rfl)) (Or.inr (own_w hw 34 rfl)) (by decide) (t := .int) (t' := .long) (by decide +kernel) (by decide +kernel)))).other W169 (Or.inr (slot_ne (Or.inr (own_w hw 48 rfl)) (Or.inr (own_w hw 36 rfl)) (by decide) (t := .int) (t' := .long) (by decide +kernel) (by decide +kernel)))).other W173 (Or.inr (slot_ne (Or.inr (own_w hw 48 rfl)) (Or.inr (own_w hw 38 rfl)) (by decide) (t := .int) (t' := .long) (by decide +kernel) (by decide +kernel)))).other W176 (Or.inr (slot_ne (Or.inr (own_w hw 48 rfl)) (Or.inr (own_w hw 40 rfl)) (by decide) (t := .int) (t' := .int) (by decide +kernel) (by decide +kernel)))).other W179 (Or.inr (slot_ne (Or.inr (own_w hw 48 rfl)) (Or.inr (own_w hw 42 rfl)) (by decide) (t := .int) (t' := .int) (by decide +kernel) (by decide +kernel)))).other W183 (Or.inr (slot_ne (Or.inr (own_w hw 48 rfl)) (Or.inr (own_w hw 44 rfl)) (by decide) (t := .int) (t' := .int) (by decide +kernel) (by decide +kernel)))).other W187 (Or.inr (slot_ne (Or.inr (own_w hw 48 rfl)) (Or.inr (own_w hw 46 rfl)) (by decide) (t := .int) (t' := .int) (by decide +kernel) (by decide +kernel))))
      have f190 := (f186.wr W187)
      obtain ⟨v192, hv192⟩ : ∃ z : Int32, z = (v2 <<< ((4 : Int32) &&& 31)) := ⟨_, rfl⟩
      rw [← hv192]
      refine own_putF (pc' := 274) X187 hx hZ hown (host := "") (Or.inl (own_w hw 47 rfl)) Via.refl e187 f189 f190 (Or.inr ⟨(own_w hw 48 rfl), rfl, hnm⟩) (own_w hw 2 rfl) (ty := .int) (by decide) rfl rfl (hb hby d1_271) rfl ?_
      intro T191 h191 X191 e191 W191
      have z191 : n0 ≤ h191.size := Nat.le_trans z187 (Keep.of_wr W191).1
      have Fw191 := f189.same W191
      have N191 := Fr.snoc X191 N187 g_a1
      have K191 : Keep h0 h191 [a1] := K187.wr W191 (Or.inl (List.mem_of_getElem? (i := 0) rfl))
      refine own_aloadN (pc' := 275) X191 hx (hb hby d1_274) rfl rfl rfl ?_
      refine own_aloadN (pc' := 276) X191 hx (hb hby d1_275) rfl rfl rfl ?_
      have f193 := (((((((((Fw157.other W161 (Or.inr (slot_ne (Or.inr (own_w hw 30 rfl)) (Or.inr (own_w hw 32 rfl)) (by decide) (t := .long) (t' := .long) (by decide +kernel) (by decide +kernel)))).other W165 (Or.inr (slot_ne (Or.inr (own_w hw 30 rfl)) (Or.inr (own_w hw 34 rfl)) (by decide) (t := .long) (t' := .long) (by decide +kernel) (by decide +kernel)))).other W169 (Or.inr (slot_ne (Or.inr (own_w hw 30 rfl)) (Or.inr (own_w hw 36 rfl)) (by decide) (t := .long) (t' := .long) (by decide +kernel) (by decide +kernel)))).other W173 (Or.inr (slot_ne (Or.inr (own_w hw 30 rfl)) (Or.inr (own_w hw 38 rfl)) (by decide) (t := .long) (t' := .long) (by decide +kernel) (by decide +kernel)))).other W176 (Or.inr (slot_ne (Or.inr (own_w hw 30 rfl)) (Or.inr (own_w hw 40 rfl)) (by decide) (t := .long) (t' := .int) (by decide +kernel) (by decide +kernel)))).other W179 (Or.inr (slot_ne (Or.inr (own_w hw 30 rfl)) (Or.inr (own_w hw 42 rfl)) (by decide) (t := .long) (t' := .int) (by decide +kernel) (by decide +kernel)))).other W183 (Or.inr (slot_ne (Or.inr (own_w hw 30 rfl)) (Or.inr (own_w hw 44 rfl)) (by decide) (t := .long) (t' := .int) (by decide +kernel) (by decide +kernel)))).other W187 (Or.inr (slot_ne (Or.inr (own_w hw 30 rfl)) (Or.inr (own_w hw 46 rfl)) (by decide) (t := .long) (t' := .int) (by decide +kernel) (by decide +kernel)))).other W191 (Or.inr (slot_ne (Or.inr (own_w hw 30 rfl)) (Or.inr (own_w hw 48 rfl)) (by decide) (t := .long) (t' := .int) (by decide +kernel) (by decide +kernel))))
      refine own_getF (pc' := 279) X191 hx hZ hown (host := "") (Or.inl (own_w hw 29 rfl)) Via.refl e191 f193 (hb hby d1_276) rfl ?_
      intro T194 X194 e194
      refine own_aloadN (pc' := 280) X194 hx (hb hby d1_279) rfl rfl rfl ?_
      have f195 := ((((Fw176.other W179 (Or.inr (slot_ne (Or.inr (own_w hw 40 rfl)) (Or.inr (own_w hw 42 rfl)) (by decide) (t := .int) (t' := .int) (by decide +kernel) (by decide +kernel)))).other W183 (Or.inr (slot_ne (Or.inr (own_w hw 40 rfl)) (Or.inr (own_w hw 44 rfl)) (by decide) (t := .int) (t' := .int) (by decide +kernel) (by decide +kernel)))).other W187 (Or.inr (slot_ne (Or.inr (own_w hw 40 rfl)) (Or.inr (own_w hw 46 rfl)) (by decide) (t := .int) (t' := .int) (by decide +kernel) (by decide +kernel)))).other W191 (Or.inr (slot_ne (Or.inr (own_w hw 40 rfl)) (Or.inr (own_w hw 48 rfl)) (by decide) (t := .int) (t' := .int) (by decide +kernel) (by decide +kernel))))
      refine own_getF (pc' := 283) X194 hx hZ hown (host := "") (Or.inl (own_w hw 39 rfl)) Via.refl e194 f195 (hb hby d1_280) rfl ?_
      intro T196 X196 e196
      refine own_lushr (pc' := 284) X196 hx (hb hby d1_283) rfl ?_
      have f197 := ((((((((((((((((((F_moved0.other W127 (Or.inr (slot_ne (Or.inr (own_w hw 50 rfl)) (Or.inr (own_w hw 16 rfl)) (by decide) (t := .long) (t' := .int) (by decide +kernel) (by decide +kernel)))).other W131 (Or.inr (slot_ne (Or.inr (own_w hw 50 rfl)) (Or.inr (own_w hw 19 rfl)) (by decide) (t := .long) (t' := .int) (by decide +kernel) (by decide +kernel)))).other W134 (Or.inr (slot_ne (Or.inr (own_w hw 50 rfl)) (Or.inr (own_w hw 21 rfl)) (by decide) (t := .long) (t' := .long) (by decide +kernel) (by decide +kernel)))).other W137 (Or.inr (slot_ne (Or.inr (own_w hw 50 rfl)) (Or.inr (own_w hw 23 rfl)) (by decide) (t := .long) (t' := .long) (by decide +kernel) (by decide +kernel)))).other W141 (Or.inr (slot_ne (Or.inr (own_w hw 50 rfl)) (Or.inr (own_w hw 25 rfl)) (by decide) (t := .long) (t' := .int) (by decide +kernel) (by decide +kernel)))).other W146 (Or.inr (slot_ne (Or.inr (own_w hw 50 rfl)) (Or.inr (own_w hw 27 rfl)) (by decide) (t := .long) (t' := .long) (by decide +kernel) (by decide +kernel)))).ext E148).keep K152 (ninS ne_a1_b148 nin0)).other W157 (Or.inr (slot_ne (Or.inr (own_w hw 50 rfl)) (Or.inr (own_w hw 30 rfl)) (by decide) (t := .long) (t' := .long) (by decide +kernel) (by decide +kernel)))).other W161 (Or.inr (slot_ne (Or.inr (own_w hw 50 rfl)) (Or.inr (own_w hw 32 rfl)) (by decide) (t := .long) (t' := .long) (by decide +kernel) (by decide +kernel)))).other W165 (Or.inr (slot_ne (Or.inr (own_w hw 50 rfl)) (Or.inr (own_w hw 34 rfl)) (by decide) (t := .long) (t' := .long) (by decide +kernel) (by decide +kernel)))).other W169 (Or.inr (slot_ne (Or.inr (own_w hw 50 rfl)) (Or.inr (own_w hw 36 rfl)) (by decide) (t := .long) (t' := .long) (by decide +kernel) (by decide +kernel)))).other W173 (Or.inr (slot_ne (Or.inr (own_w hw 50 rfl)) (Or.inr (own_w hw 38 rfl)) (by decide) (t := .long) (t' := .long) (by decide +kernel) (by decide +kernel)))).other W176 (Or.inr (slot_ne (Or.inr (own_w hw 50 rfl)) (Or.inr (own_w hw 40 rfl)) (by decide) (t := .long) (t' := .int) (by decide +kernel) (by decide +kernel)))).other W179 (Or.inr (slot_ne (Or.inr (own_w hw 50 rfl)) (Or.inr (own_w hw 42 rfl)) (by decide) (t := .long) (t' := .int) (by decide +kernel) (by decide +kernel)))).other W183 (Or.inr (slot_ne (Or.inr (own_w hw 50 rfl)) (Or.inr (own_w hw 44 rfl)) (by decide) (t := .long) (t' := .int) (by decide +kernel) (by decide +kernel)))).other W187 (Or.inr (slot_ne (Or.inr (own_w hw 50 rfl)) (Or.inr (own_w hw 46 rfl)) (by decide) (t := .long) (t' := .int) (by decide +kernel) (by decide +kernel)))).other W191 (Or.inr (slot_ne (Or.inr (own_w hw 50 rfl)) (Or.inr (own_w hw 48 rfl)) (by decide) (t := .long) (t' := .int) (by decide +kernel) (by decide +kernel))))
      have f198 := (f190.wr W191)
      obtain ⟨v200, hv200⟩ : ∃ z : Int64, z = ((mv152.toUInt64 >>> (v2 &&& 0x3f).toInt64.toUInt64).toInt64) := ⟨_, rfl⟩
      rw [← hv200]
      refine own_putF (pc' := 287) X196 hx hZ hown (host := "") (Or.inl (own_w hw 49 rfl)) Via.refl e196 f197 f198 (Or.inr ⟨(own_w hw 50 rfl), rfl, hnm⟩) (own_w hw 2 rfl) (ty := .long) (by decide) rfl rfl (hb hby d1_284) rfl ?_
      intro T199 h199 X199 e199 W199
      have z199 : n0 ≤ h199.size := Nat.le_trans z191 (Keep.of_wr W199).1
      have Fw199 := f197.same W199
      have N199 := Fr.snoc X199 N191 g_a1
      have K199 : Keep h0 h199 [a1] := K191.wr W199 (Or.inl (List.mem_of_getElem? (i := 0) rfl))
      refine own_aloadN (pc' := 288) X199 hx (hb hby d1_287) rfl rfl rfl ?_
      refine own_aloadN (pc' := 289) X199 hx (hb hby d1_288) rfl rfl rfl ?_
      have f201 := (((((((((Fw161.other W165 (Or.inr (slot_ne (Or.inr (own_w hw 32 rfl)) (Or.inr (own_w hw 34 rfl)) (by decide) (t := .long) (t' := .long) (by decide +kernel) (by decide +kernel)))).other W169 (Or.inr (slot_ne (Or.inr (own_w hw 32 rfl)) (Or.inr (own_w hw 36 rfl)) (by decide) (t := .long) (t' := .long) (by decide +kernel) (by decide +kernel)))).other W173 (Or.inr (slot_ne (Or.inr (own_w hw 32 rfl)) (Or.inr (own_w hw 38 rfl)) (by decide) (t := .long) (t' := .long) (by decide +kernel) (by decide +kernel)))).other W176 (Or.inr (slot_ne (Or.inr (own_w hw 32 rfl)) (Or.inr (own_w hw 40 rfl)) (by decide) (t := .long) (t' := .int) (by decide +kernel) (by decide +kernel)))).other W179 (Or.inr (slot_ne (Or.inr (own_w hw 32 rfl)) (Or.inr (own_w hw 42 rfl)) (by decide) (t := .long) (t' := .int) (by decide +kernel) (by decide +kernel)))).other W183 (Or.inr (slot_ne (Or.inr (own_w hw 32 rfl)) (Or.inr (own_w hw 44 rfl)) (by decide) (t := .long) (t' := .int) (by decide +kernel) (by decide +kernel)))).other W187 (Or.inr (slot_ne (Or.inr (own_w hw 32 rfl)) (Or.inr (own_w hw 46 rfl)) (by decide) (t := .long) (t' := .int) (by decide +kernel) (by decide +kernel)))).other W191 (Or.inr (slot_ne (Or.inr (own_w hw 32 rfl)) (Or.inr (own_w hw 48 rfl)) (by decide) (t := .long) (t' := .int) (by decide +kernel) (by decide +kernel)))).other W199 (Or.inr (slot_ne (Or.inr (own_w hw 32 rfl)) (Or.inr (own_w hw 50 rfl)) (by decide) (t := .long) (t' := .long) (by decide +kernel) (by decide +kernel))))
      refine own_getF (pc' := 292) X199 hx hZ hown (host := "") (Or.inl (own_w hw 31 rfl)) Via.refl e199 f201 (hb hby d1_289) rfl ?_
      intro T202 X202 e202
      refine own_aloadN (pc' := 293) X202 hx (hb hby d1_292) rfl rfl rfl ?_
      have f203 := ((((Fw179.other W183 (Or.inr (slot_ne (Or.inr (own_w hw 42 rfl)) (Or.inr (own_w hw 44 rfl)) (by decide) (t := .int) (t' := .int) (by decide +kernel) (by decide +kernel)))).other W187 (Or.inr (slot_ne (Or.inr (own_w hw 42 rfl)) (Or.inr (own_w hw 46 rfl)) (by decide) (t := .int) (t' := .int) (by decide +kernel) (by decide +kernel)))).other W191 (Or.inr (slot_ne (Or.inr (own_w hw 42 rfl)) (Or.inr (own_w hw 48 rfl)) (by decide) (t := .int) (t' := .int) (by decide +kernel) (by decide +kernel)))).other W199 (Or.inr (slot_ne (Or.inr (own_w hw 42 rfl)) (Or.inr (own_w hw 50 rfl)) (by decide) (t := .int) (t' := .long) (by decide +kernel) (by decide +kernel))))
      refine own_getF (pc' := 296) X202 hx hZ hown (host := "") (Or.inl (own_w hw 41 rfl)) Via.refl e202 f203 (hb hby d1_293) rfl ?_
      intro T204 X204 e204
      refine own_lushr (pc' := 297) X204 hx (hb hby d1_296) rfl ?_
      have f205 := (((((((((((((((((((F_moved1.other W127 (Or.inr (slot_ne (Or.inr (own_w hw 52 rfl)) (Or.inr (own_w hw 16 rfl)) (by decide) (t := .long) (t' := .int) (by decide +kernel) (by decide +kernel)))).other W131 (Or.inr (slot_ne (Or.inr (own_w hw 52 rfl)) (Or.inr (own_w hw 19 rfl)) (by decide) (t := .long) (t' := .int) (by decide +kernel) (by decide +kernel)))).other W134 (Or.inr (slot_ne (Or.inr (own_w hw 52 rfl)) (Or.inr (own_w hw 21 rfl)) (by decide) (t := .long) (t' := .long) (by decide +kernel) (by decide +kernel)))).other W137 (Or.inr (slot_ne (Or.inr (own_w hw 52 rfl)) (Or.inr (own_w hw 23 rfl)) (by decide) (t := .long) (t' := .long) (by decide +kernel) (by decide +kernel)))).other W141 (Or.inr (slot_ne (Or.inr (own_w hw 52 rfl)) (Or.inr (own_w hw 25 rfl)) (by decide) (t := .long) (t' := .int) (by decide +kernel) (by decide +kernel)))).other W146 (Or.inr (slot_ne (Or.inr (own_w hw 52 rfl)) (Or.inr (own_w hw 27 rfl)) (by decide) (t := .long) (t' := .long) (by decide +kernel) (by decide +kernel)))).ext E148).keep K152 (ninS ne_a1_b148 nin0)).other W157 (Or.inr (slot_ne (Or.inr (own_w hw 52 rfl)) (Or.inr (own_w hw 30 rfl)) (by decide) (t := .long) (t' := .long) (by decide +kernel) (by decide +kernel)))).other W161 (Or.inr (slot_ne (Or.inr (own_w hw 52 rfl)) (Or.inr (own_w hw 32 rfl)) (by decide) (t := .long) (t' := .long) (by decide +kernel) (by decide +kernel)))).other W165 (Or.inr (slot_ne (Or.inr (own_w hw 52 rfl)) (Or.inr (own_w hw 34 rfl)) (by decide) (t := .long) (t' := .long) (by decide +kernel) (by decide +kernel)))).other W169 (Or.inr (slot_ne (Or.inr (own_w hw 52 rfl)) (Or.inr (own_w hw 36 rfl)) (by decide) (t := .long) (t' := .long) (by decide +kernel) (by decide +kernel)))).other W173 (Or.inr (slot_ne (Or.inr (own_w hw 52 rfl)) (Or.inr (own_w hw 38 rfl)) (by decide) (t := .long) (t' := .long) (by decide +kernel) (by decide +kernel)))).other W176 (Or.inr (slot_ne (Or.inr (own_w hw 52 rfl)) (Or.inr (own_w hw 40 rfl)) (by decide) (t := .long) (t' := .int) (by decide +kernel) (by decide +kernel)))).other W179 (Or.inr (slot_ne (Or.inr (own_w hw 52 rfl)) (Or.inr (own_w hw 42 rfl)) (by decide) (t := .long) (t' := .int) (by decide +kernel) (by decide +kernel)))).other W183 (Or.inr (slot_ne (Or.inr (own_w hw 52 rfl)) (Or.inr (own_w hw 44 rfl)) (by decide) (t := .long) (t' := .int) (by decide +kernel) (by decide +kernel)))).other W187 (Or.inr (slot_ne (Or.inr (own_w hw 52 rfl)) (Or.inr (own_w hw 46 rfl)) (by decide) (t := .long) (t' := .int) (by decide +kernel) (by decide +kernel)))).other W191 (Or.inr (slot_ne (Or.inr (own_w hw 52 rfl)) (Or.inr (own_w hw 48 rfl)) (by decide) (t := .long) (t' := .int) (by decide +kernel) (by decide +kernel)))).other W199 (Or.inr (slot_ne (Or.inr (own_w hw 52 rfl)) (Or.inr (own_w hw 50 rfl)) (by decide) (t := .long) (t' := .long) (by decide +kernel) (by decide +kernel))))
      have f206 := (f198.wr W199)
      obtain ⟨v208, hv208⟩ : ∃ z : Int64, z = (((0 : Int64).toUInt64 >>> (v180 &&& 0x3f).toInt64.toUInt64).toInt64) := ⟨_, rfl⟩
      rw [← hv208]
      refine own_putF (pc' := 300) X204 hx hZ hown (host := "") (Or.inl (own_w hw 51 rfl)) Via.refl e204 f205 f206 (Or.inr ⟨(own_w hw 52 rfl), rfl, hnm⟩) (own_w hw 2 rfl) (ty := .long) (by decide) rfl rfl (hb hby d1_297) rfl ?_
      intro T207 h207 X207 e207 W207
      have z207 : n0 ≤ h207.size := Nat.le_trans z199 (Keep.of_wr W207).1
      have Fw207 := f205.same W207
      have N207 := Fr.snoc X207 N199 g_a1
      have K207 : Keep h0 h207 [a1] := K199.wr W207 (Or.inl (List.mem_of_getElem? (i := 0) rfl))
      refine own_aloadN (pc' := 301) X207 hx (hb hby d1_300) rfl rfl rfl ?_
      refine own_aloadN (pc' := 302) X207 hx (hb hby d1_301) rfl rfl rfl ?_
      have f209 := (((((((((Fw165.other W169 (Or.inr (slot_ne (Or.inr (own_w hw 34 rfl)) (Or.inr (own_w hw 36 rfl)) (by decide) (t := .long) (t' := .long) (by decide +kernel) (by decide +kernel)))).other W173 (Or.inr (slot_ne (Or.inr (own_w hw 34 rfl)) (Or.inr (own_w hw 38 rfl)) (by decide) (t := .long) (t' := .long) (by decide +kernel) (by decide +kernel)))).other W176 (Or.inr (slot_ne (Or.inr (own_w hw 34 rfl)) (Or.inr (own_w hw 40 rfl)) (by decide) (t := .long) (t' := .int) (by decide +kernel) (by decide +kernel)))).other W179 (Or.inr (slot_ne (Or.inr (own_w hw 34 rfl)) (Or.inr (own_w hw 42 rfl)) (by decide) (t := .long) (t' := .int) (by decide +kernel) (by decide +kernel)))).other W183 (Or.inr (slot_ne (Or.inr (own_w hw 34 rfl)) (Or.inr (own_w hw 44 rfl)) (by decide) (t := .long) (t' := .int) (by decide +kernel) (by decide +kernel)))).other W187 (Or.inr (slot_ne (Or.inr (own_w hw 34 rfl)) (Or.inr (own_w hw 46 rfl)) (by decide) (t := .long) (t' := .int) (by decide +kernel) (by decide +kernel)))).other W191 (Or.inr (slot_ne (Or.inr (own_w hw 34 rfl)) (Or.inr (own_w hw 48 rfl)) (by decide) (t := .long) (t' := .int) (by decide +kernel) (by decide +kernel)))).other W199 (Or.inr (slot_ne (Or.inr (own_w hw 34 rfl)) (Or.inr (own_w hw 50 rfl)) (by decide) (t := .long) (t' := .long) (by decide +kernel) (by decide +kernel)))).other W207 (Or.inr (slot_ne (Or.inr (own_w hw 34 rfl)) (Or.inr (own_w hw 52 rfl)) (by decide) (t := .long) (t' := .long) (by decide +kernel) (by decide +kernel))))
      refine own_getF (pc' := 305) X207 hx hZ hown (host := "") (Or.inl (own_w hw 33 rfl)) Via.refl e207 f209 (hb hby d1_302) rfl ?_
      intro T210 X210 e210
      refine own_aloadN (pc' := 306) X210 hx (hb hby d1_305) rfl rfl rfl ?_
      have f211 := ((((Fw183.other W187 (Or.inr (slot_ne (Or.inr (own_w hw 44 rfl)) (Or.inr (own_w hw 46 rfl)) (by decide) (t := .int) (t' := .int) (by decide +kernel) (by decide +kernel)))).other W191 (Or.inr (slot_ne (Or.inr (own_w hw 44 rfl)) (Or.inr (own_w hw 48 rfl)) (by decide) (t := .int) (t' := .int) (by decide +kernel) (by decide +kernel)))).other W199 (Or.inr (slot_ne (Or.inr (own_w hw 44 rfl)) (Or.inr (own_w hw 50 rfl)) (by decide) (t := .int) (t' := .long) (by decide +kernel) (by decide +kernel)))).other W207 (Or.inr (slot_ne (Or.inr (own_w hw 44 rfl)) (Or.inr (own_w hw 52 rfl)) (by decide) (t := .int) (t' := .long) (by decide +kernel) (by decide +kernel))))
      refine own_getF (pc' := 309) X210 hx hZ hown (host := "") (Or.inl (own_w hw 43 rfl)) Via.refl e210 f211 (hb hby d1_306) rfl ?_
      intro T212 X212 e212
      refine own_lushr (pc' := 310) X212 hx (hb hby d1_309) rfl ?_
      have f213 := ((((((((((((((((((((F_moved2.other W127 (Or.inr (slot_ne (Or.inr (own_w hw 54 rfl)) (Or.inr (own_w hw 16 rfl)) (by decide) (t := .long) (t' := .int) (by decide +kernel) (by decide +kernel)))).other W131 (Or.inr (slot_ne (Or.inr (own_w hw 54 rfl)) (Or.inr (own_w hw 19 rfl)) (by decide) (t := .long) (t' := .int) (by decide +kernel) (by decide +kernel)))).other W134 (Or.inr (slot_ne (Or.inr (own_w hw 54 rfl)) (Or.inr (own_w hw 21 rfl)) (by decide) (t := .long) (t' := .long) (by decide +kernel) (by decide +kernel)))).other W137 (Or.inr (slot_ne (Or.inr (own_w hw 54 rfl)) (Or.inr (own_w hw 23 rfl)) (by decide) (t := .long) (t' := .long) (by decide +kernel) (by decide +kernel)))).other W141 (Or.inr (slot_ne (Or.inr (own_w hw 54 rfl)) (Or.inr (own_w hw 25 rfl)) (by decide) (t := .long) (t' := .int) (by decide +kernel) (by decide +kernel)))).other W146 (Or.inr (slot_ne (Or.inr (own_w hw 54 rfl)) (Or.inr (own_w hw 27 rfl)) (by decide) (t := .long) (t' := .long) (by decide +kernel) (by decide +kernel)))).ext E148).keep K152 (ninS ne_a1_b148 nin0)).other W157 (Or.inr (slot_ne (Or.inr (own_w hw 54 rfl)) (Or.inr (own_w hw 30 rfl)) (by decide) (t := .long) (t' := .long) (by decide +kernel) (by decide +kernel)))).other W161 (Or.inr (slot_ne (Or.inr (own_w hw 54 rfl)) (Or.inr (own_w hw 32 rfl)) (by decide) (t := .long) (t' := .long) (by decide +kernel) (by decide +kernel)))).other W165 (Or.inr (slot_ne (Or.inr (own_w hw 54 rfl)) (Or.inr (own_w hw 34 rfl)) (by decide) (t := .long) (t' := .long) (by decide +kernel) (by decide +kernel)))).other W169 (Or.inr (slot_ne (Or.inr (own_w hw 54 rfl)) (Or.inr (own_w hw 36 rfl)) (by decide) (t := .long) (t' := .long) (by decide +kernel) (by decide +kernel)))).other W173 (Or.inr (slot_ne (Or.inr (own_w hw 54 rfl)) (Or.inr (own_w hw 38 rfl)) (by decide) (t := .long) (t' := .long) (by decide +kernel) (by decide +kernel)))).other W176 (Or.inr (slot_ne (Or.inr (own_w hw 54 rfl)) (Or.inr (own_w hw 40 rfl)) (by decide) (t := .long) (t' := .int) (by decide +kernel) (by decide +kernel)))).other W179 (Or.inr (slot_ne (Or.inr (own_w hw 54 rfl)) (Or.inr (own_w hw 42 rfl)) (by decide) (t := .long) (t' := .int) (by decide +kernel) (by decide +kernel)))).other W183 (Or.inr (slot_ne (Or.inr (own_w hw 54 rfl)) (Or.inr (own_w hw 44 rfl)) (by decide) (t := .long) (t' := .int) (by decide +kernel) (by decide +kernel)))).other W187 (Or.inr (slot_ne (Or.inr (own_w hw 54 rfl)) (Or.inr (own_w hw 46 rfl)) (by decide) (t := .long) (t' := .int) (by decide +kernel) (by decide +kernel)))).other W191 (Or.inr (slot_ne (Or.inr (own_w hw 54 rfl)) (Or.inr (own_w hw 48 rfl)) (by decide) (t := .long) (t' := .int) (by decide +kernel) (by decide +kernel)))).other W199 (Or.inr (slot_ne (Or.inr (own_w hw 54 rfl)) (Or.inr (own_w hw 50 rfl)) (by decide) (t := .long) (t' := .long) (by decide +kernel) (by decide +kernel)))).other W207 (Or.inr (slot_ne (Or.inr (own_w hw 54 rfl)) (Or.inr (own_w hw 52 rfl)) (by decide) (t := .long) (t' := .long) (by decide +kernel) (by decide +kernel))))
      have f214 := (f206.wr W207)
      obtain ⟨v216, hv216⟩ : ∃ z : Int64, z = (((0 : Int64).toUInt64 >>> (v184 &&& 0x3f).toInt64.toUInt64).toInt64) := ⟨_, rfl⟩
      rw [← hv216]
      refine own_putF (pc' := 313) X212 hx hZ hown (host := "") (Or.inl (own_w hw 53 rfl)) Via.refl e212 f213 f214 (Or.inr ⟨(own_w hw 54 rfl), rfl, hnm⟩) (own_w hw 2 rfl) (ty := .long) (by decide) rfl rfl (hb hby d1_310) rfl ?_
      intro T215 h215 X215 e215 W215
      have z215 : n0 ≤ h215.size := Nat.le_trans z207 (Keep.of_wr W215).1
      have Fw215 := f213.same W215
      have N215 := Fr.snoc X215 N207 g_a1
      have K215 : Keep h0 h215 [a1] := K207.wr W215 (Or.inl (List.mem_of_getElem? (i := 0) rfl))
      refine own_aloadN (pc' := 314) X215 hx (hb hby d1_313) rfl rfl rfl ?_
      refine own_aloadN (pc' := 315) X215 hx (hb hby d1_314) rfl rfl rfl ?_
      have f217 := (((((((((Fw169.other W173 (Or.inr (slot_ne (Or.inr (own_w hw 36 rfl)) (Or.inr (own_w hw 38 rfl)) (by decide) (t := .long) (t' := .long) (by decide +kernel) (by decide +kernel)))).other W176 (Or.inr (slot_ne (Or.inr (own_w hw 36 rfl)) (Or.inr (own_w hw 40 rfl)) (by decide) (t := .long) (t' := .int) (by decide +kernel) (by decide +kernel)))).other W179 (Or.inr (slot_ne (Or.inr (own_w hw 36 rfl)) (Or.inr (own_w hw 42 rfl)) (by decide) (t := .long) (t' := .int) (by decide +kernel) (by decide +kernel)))).other W183 (Or.inr (slot_ne (Or.inr (own_w hw 36 rfl)) (Or.inr (own_w hw 44 rfl)) (by decide) (t := .long) (t' := .int) (by decide +kernel) (by decide +kernel)))).other W187 (Or.inr (slot_ne (Or.inr (own_w hw 36 rfl)) (Or.inr (own_w hw 46 rfl)) (by decide) (t := .long) (t' := .int) (by decide +kernel) (by decide +kernel)))).other W191 (Or.inr (slot_ne (Or.inr (own_w hw 36 rfl)) (Or.inr (own_w hw 48 rfl)) (by decide) (t := .long) (t' := .int) (by decide +kernel) (by decide +kernel)))).other W199 (Or.inr (slot_ne (Or.inr (own_w hw 36 rfl)) (Or.inr (own_w hw 50 rfl)) (by decide) (t := .long) (t' := .long) (by decide +kernel) (by decide +kernel)))).other W207 (Or.inr (slot_ne (Or.inr (own_w hw 36 rfl)) (Or.inr (own_w hw 52 rfl)) (by decide) (t := .long) (t' := .long) (by decide +kernel) (by decide +kernel)))).other W215 (Or.inr (slot_ne (Or.inr (own_w hw 36 rfl)) (Or.inr (own_w hw 54 rfl)) (by decide) (t := .long) (t' := .long) (by decide +kernel) (by decide +kernel))))
      refine own_getF (pc' := 318) X215 hx hZ hown (host := "") (Or.inl (own_w hw 35 rfl)) Via.refl e215 f217 (hb hby d1_315) rfl ?_
      intro T218 X218 e218
      refine own_aloadN (pc' := 319) X218 hx (hb hby d1_318) rfl rfl rfl ?_
      have f219 := ((((Fw187.other W191 (Or.inr (slot_ne (Or.inr (own_w hw 46 rfl)) (Or.inr (own_w hw 48 rfl)) (by decide) (t := .int) (t' := .int) (by decide +kernel) (by decide +kernel)))).other W199 (Or.inr (slot_ne (Or.inr (own_w hw 46 rfl)) (Or.inr (own_w hw 50 rfl)) (by decide) (t := .int) (t' := .long) (by decide +kernel) (by decide +kernel)))).other W207 (Or.inr (slot_ne (Or.inr (own_w hw 46 rfl)) (Or.inr (own_w hw 52 rfl)) (by decide) (t := .int) (t' := .long) (by decide +kernel) (by decide +kernel)))).other W215 (Or.inr (slot_ne (Or.inr (own_w hw 46 rfl)) (Or.inr (own_w hw 54 rfl)) (by decide) (t := .int) (t' := .long) (by decide +kernel) (by decide +kernel))))
      refine own_getF (pc' := 322) X218 hx hZ hown (host := "") (Or.inl (own_w hw 45 rfl)) Via.refl e218 f219 (hb hby d1_319) rfl ?_
      intro T220 X220 e220
      refine own_lushr (pc' := 323) X220 hx (hb hby d1_322) rfl ?_
      have f221 := (((((((((((((((((((((F_moved3.other W127 (Or.inr (slot_ne (Or.inr (own_w hw 56 rfl)) (Or.inr (own_w hw 16 rfl)) (by decide) (t := .long) (t' := .int) (by decide +kernel) (by decide +kernel)))).other W131 (Or.inr (slot_ne (Or.inr (own_w hw 56 rfl)) (Or.inr (own_w hw 19 rfl)) (by decide) (t := .long) (t' := .int) (by decide +kernel) (by decide +kernel)))).other W134 (Or.inr (slot_ne (Or.inr (own_w hw 56 rfl)) (Or.inr (own_w hw 21 rfl)) (by decide) (t := .long) (t' := .long) (by decide +kernel) (by decide +kernel)))).other W137 (Or.inr (slot_ne (Or.inr (own_w hw 56 rfl)) (Or.inr (own_w hw 23 rfl)) (by decide) (t := .long) (t' := .long) (by decide +kernel) (by decide +kernel)))).other W141 (Or.inr (slot_ne (Or.inr (own_w hw 56 rfl)) (Or.inr (own_w hw 25 rfl)) (by decide) (t := .long) (t' := .int) (by decide +kernel) (by decide +kernel)))).other W146 (Or.inr (slot_ne (Or.inr (own_w hw 56 rfl)) (Or.inr (own_w hw 27 rfl)) (by decide) (t := .long) (t' := .long) (by decide +kernel) (by decide +kernel)))).ext E148).keep K152 (ninS ne_a1_b148 nin0)).other W157 (Or.inr (slot_ne (Or.inr (own_w hw 56 rfl)) (Or.inr (own_w hw 30 rfl)) (by decide) (t := .long) (t' := .long) (by decide +kernel) (by decide +kernel)))).other W161 (Or.inr (slot_ne (Or.inr (own_w hw 56 rfl)) (Or.inr (own_w hw 32 rfl)) (by decide) (t := .long) (t' := .long) (by decide +kernel) (by decide +kernel)))).other W165 (Or.inr (slot_ne (Or.inr (own_w hw 56 rfl)) (Or.inr (own_w hw 34 rfl)) (by decide) (t := .long) (t' := .long) (by decide +kernel) (by decide +kernel)))).other W169 (Or.inr (slot_ne (Or.inr (own_w hw 56 rfl)) (Or.inr (own_w hw 36 rfl)) (by decide) (t := .long) (t' := .long) (by decide +kernel) (by decide +kernel)))).other W173 (Or.inr (slot_ne (Or.inr (own_w hw 56 rfl)) (Or.inr (own_w hw 38 rfl)) (by decide) (t := .long) (t' := .long) (by decide +kernel) (by decide +kernel)))).other W176 (Or.inr (slot_ne (Or.inr (own_w hw 56 rfl)) (Or.inr (own_w hw 40 rfl)) (by decide) (t := .long) (t' := .int) (by decide +kernel) (by decide +kernel)))).other W179 (Or.inr (slot_ne (Or.inr (own_w hw 56 rfl)) (Or.inr (own_w hw 42 rfl)) (by decide) (t := .long) (t' := .int) (by decide +kernel) (by decide +kernel)))).other W183 (Or.inr (slot_ne (Or.inr (own_w hw 56 rfl)) (Or.inr (own_w hw 44 rfl)) (by decide) (t := .long) (t' := .int) (by decide +kernel) (by decide +kernel)))).other W187 (Or.inr (slot_ne (Or.inr (own_w hw 56 rfl)) (Or.inr (own_w hw 46 rfl)) (by decide) (t := .long) (t' := .int) (by decide +kernel) (by decide +kernel)))).other W191 (Or.inr (slot_ne (Or.inr (own_w hw 56 rfl)) (Or.inr (own_w hw 48 rfl)) (by decide) (t := .long) (t' := .int) (by decide +kernel) (by decide +kernel)))).other W199 (Or.inr (slot_ne (Or.inr (own_w hw 56 rfl)) (Or.inr (own_w hw 50 rfl)) (by decide) (t := .long) (t' := .long) (by decide +kernel) (by decide +kernel)))).other W207 (Or.inr (slot_ne (Or.inr (own_w hw 56 rfl)) (Or.inr (own_w hw 52 rfl)) (by decide) (t := .long) (t' := .long) (by decide +kernel) (by decide +kernel)))).other W215 (Or.inr (slot_ne (Or.inr (own_w hw 56 rfl)) (Or.inr (own_w hw 54 rfl)) (by decide) (t := .long) (t' := .long) (by decide +kernel) (by decide +kernel))))
      have f222 := (f214.wr W215)
      obtain ⟨v224, hv224⟩ : ∃ z : Int64, z = (((0 : Int64).toUInt64 >>> (v188 &&& 0x3f).toInt64.toUInt64).toInt64) := ⟨_, rfl⟩
      rw [← hv224]
      refine own_putF (pc' := 326) X220 hx hZ hown (host := "") (Or.inl (own_w hw 55 rfl)) Via.refl e220 f221 f222 (Or.inr ⟨(own_w hw 56 rfl), rfl, hnm⟩) (own_w hw 2 rfl) (ty := .long) (by decide) rfl rfl (hb hby d1_323) rfl ?_
      intro T223 h223 X223 e223 W223
      have z223 : n0 ≤ h223.size := Nat.le_trans z215 (Keep.of_wr W223).1
      have Fw223 := f221.same W223
      have N223 := Fr.snoc X223 N215 g_a1
      have K223 : Keep h0 h223 [a1] := K215.wr W223 (Or.inl (List.mem_of_getElem? (i := 0) rfl))
      refine own_aloadN (pc' := 327) X223 hx (hb hby d1_326) rfl rfl rfl ?_
      refine own_aloadN (pc' := 328) X223 hx (hb hby d1_327) rfl rfl rfl ?_
      have f225 := (((((((((Fw173.other W176 (Or.inr (slot_ne (Or.inr (own_w hw 38 rfl)) (Or.inr (own_w hw 40 rfl)) (by decide) (t := .long) (t' := .int) (by decide +kernel) (by decide +kernel)))).other W179 (Or.inr (slot_ne (Or.inr (own_w hw 38 rfl)) (Or.inr (own_w hw 42 rfl)) (by decide) (t := .long) (t' := .int) (by decide +kernel) (by decide +kernel)))).other W183 (Or.inr (slot_ne (Or.inr (own_w hw 38 rfl)) (Or.inr (own_w hw 44 rfl)) (by decide) (t := .long) (t' := .int) (by decide +kernel) (by decide +kernel)))).other W187 (Or.inr (slot_ne (Or.inr (own_w hw 38 rfl)) (Or.inr (own_w hw 46 rfl)) (by decide) (t := .long) (t' := .int) (by decide +kernel) (by decide +kernel)))).other W191 (Or.inr (slot_ne (Or.inr (own_w hw 38 rfl)) (Or.inr (own_w hw 48 rfl)) (by decide) (t := .long) (t' := .int) (by decide +kernel) (by decide +kernel)))).other W199 (Or.inr (slot_ne (Or.inr (own_w hw 38 rfl)) (Or.inr (own_w hw 50 rfl)) (by decide) (t := .long) (t' := .long) (by decide +kernel) (by decide +kernel)))).other W207 (Or.inr (slot_ne (Or.inr (own_w hw 38 rfl)) (Or.inr (own_w hw 52 rfl)) (by decide) (t := .long) (t' := .long) (by decide +kernel) (by decide +kernel)))).other W215 (Or.inr (slot_ne (Or.inr (own_w hw 38 rfl)) (Or.inr (own_w hw 54 rfl)) (by decide) (t := .long) (t' := .long) (by decide +kernel) (by decide +kernel)))).other W223 (Or.inr (slot_ne (Or.inr (own_w hw 38 rfl)) (Or.inr (own_w hw 56 rfl)) (by decide) (t := .long) (t' := .long) (by decide +kernel) (by decide +kernel))))
      refine own_getF (pc' := 331) X223 hx hZ hown (host := "") (Or.inl (own_w hw 37 rfl)) Via.refl e223 f225 (hb hby d1_328) rfl ?_
      intro T226 X226 e226
      refine own_aloadN (pc' := 332) X226 hx (hb hby d1_331) rfl rfl rfl ?_
      have f227 := ((((Fw191.other W199 (Or.inr (slot_ne (Or.inr (own_w hw 48 rfl)) (Or.inr (own_w hw 50 rfl)) (by decide) (t := .int) (t' := .long) (by decide +kernel) (by decide +kernel)))).other W207 (Or.inr (slot_ne (Or.inr (own_w hw 48 rfl)) (Or.inr (own_w hw 52 rfl)) (by decide) (t := .int) (t' := .long) (by decide +kernel) (by decide +kernel)))).other W215 (Or.inr (slot_ne (Or.inr (own_w hw 48 rfl)) (Or.inr (own_w hw 54 rfl)) (by decide) (t := .int) (t' := .long) (by decide +kernel) (by decide +kernel)))).other W223 (Or.inr (slot_ne (Or.inr (own_w hw 48 rfl)) (Or.inr (own_w hw 56 rfl)) (by decide) (t := .int) (t' := .long) (by decide +kernel) (by decide +kernel))))
      refine own_getF (pc' := 335) X226 hx hZ hown (host := "") (Or.inl (own_w hw 47 rfl)) Via.refl e226 f227 (hb hby d1_332) rfl ?_
      intro T228 X228 e228
      refine own_lushr (pc' := 336) X228 hx (hb hby d1_335) rfl ?_
      have f229 := ((((((((((((((((((((((F_moved4.other W127 (Or.inr (slot_ne (Or.inr (own_w hw 58 rfl)) (Or.inr (own_w hw 16 rfl)) (by decide) (t := .long) (t' := .int) (by decide +kernel) (by decide +kernel)))).other W131 (Or.inr (slot_ne (Or.inr (own_w hw 58 rfl)) (Or.inr (own_w hw 19 rfl)) (by decide) (t := .long) (t' := .int) (by decide +kernel) (by decide +kernel)))).other W134 (Or.inr (slot_ne (Or.inr (own_w hw 58 rfl)) (Or.inr (own_w hw 21 rfl)) (by decide) (t := .long) (t' := .long) (by decide +kernel) (by decide +kernel)))).other W137 (Or.inr (slot_ne (Or.inr (own_w hw 58 rfl)) (Or.inr (own_w hw 23 rfl)) (by decide) (t := .long) (t' := .long) (by decide +kernel) (by decide +kernel)))).other W141 (Or.inr (slot_ne (Or.inr (own_w hw 58 rfl)) (Or.inr (own_w hw 25 rfl)) (by decide) (t := .long) (t' := .int) (by decide +kernel) (by decide +kernel)))).other W146 (Or.inr (slot_ne (Or.inr (own_w hw 58 rfl)) (Or.inr (own_w hw 27 rfl)) (by decide) (t := .long) (t' := .long) (by decide +kernel) (by decide +kernel)))).ext E148).keep K152 (ninS ne_a1_b148 nin0)).other W157 (Or.inr (slot_ne (Or.inr (own_w hw 58 rfl)) (Or.inr (own_w hw 30 rfl)) (by decide) (t := .long) (t' := .long) (by decide +kernel) (by decide +kernel)))).other W161 (Or.inr (slot_ne (Or.inr (own_w hw 58 rfl)) (Or.inr (own_w hw 32 rfl)) (by decide) (t := .long) (t' := .long) (by decide +kernel) (by decide +kernel)))).other W165 (Or.inr (slot_ne (Or.inr (own_w hw 58 rfl)) (Or.inr (own_w hw 34 rfl)) (by decide) (t := .long) (t' := .long) (by decide +kernel) (by decide +kernel)))).other W169 (Or.inr (slot_ne (Or.inr (own_w hw 58 rfl)) (Or.inr (own_w hw 36 rfl)) (by decide) (t := .long) (t' := .long) (by decide +kernel) (by decide +kernel)))).other W173 (Or.inr (slot_ne (Or.inr (own_w hw 58 rfl)) (Or.inr (own_w hw 38 rfl)) (by decide) (t := .long) (t' := .long) (by decide +kernel) (by decide +kernel)))).other W176 (Or.inr (slot_ne (Or.inr (own_w hw 58 rfl)) (Or.inr (own_w hw 40 rfl)) (by decide) (t := .long) (t' := .int) (by decide +kernel) (by decide +kernel)))).other W179 (Or.inr (slot_ne (Or.inr (own_w hw 58 rfl)) (Or.inr (own_w hw 42 rfl)) (by decide) (t := .long) (t' := .int) (by decide +kernel) (by decide +kernel)))).other W183 (Or.inr (slot_ne (Or.inr (own_w hw 58 rfl)) (Or.inr (own_w hw 44 rfl)) (by decide) (t := .long) (t' := .int) (by decide +kernel) (by decide +kernel)))).other W187 (Or.inr (slot_ne (Or.inr (own_w hw 58 rfl)) (Or.inr (own_w hw 46 rfl)) (by decide) (t := .long) (t' := .int) (by decide +kernel) (by decide +kernel)))).other W191 (Or.inr (slot_ne (Or.inr (own_w hw 58 rfl)) (Or.inr (own_w hw 48 rfl)) (by decide) (t := .long) (t' := .int) (by decide +kernel) (by decide +kernel)))).other W199 (Or.inr (slot_ne (Or.inr (own_w hw 58 rfl)) (Or.inr (own_w hw 50 rfl)) (by decide) (t := .long) (t' := .long) (by decide +kernel) (by decide +kernel)))).other W207 (Or.inr (slot_ne (Or.inr (own_w hw 58 rfl)) (Or.inr (own_w hw 52 rfl)) (by decide) (t := .long) (t' := .long) (by decide +kernel) (by decide +kernel)))).other W215 (Or.inr (slot_ne (Or.inr (own_w hw 58 rfl)) (Or.inr (own_w hw 54 rfl)) (by decide) (t := .long) (t' := .long) (by decide +kernel) (by decide +kernel)))).other W223 (Or.inr (slot_ne (Or.inr (own_w hw 58 rfl)) (Or.inr (own_w hw 56 rfl)) (by decide) (t := .long) (t' := .long) (by decide +kernel) (by decide +kernel))))
      have f230 := (f222.wr W223)
      obtain ⟨v232, hv232⟩ : ∃ z : Int64, z = (((0 : Int64).toUInt64 >>> (v192 &&& 0x3f).toInt64.toUInt64).toInt64) := ⟨_, rfl⟩
      rw [← hv232]
      refine own_putF (pc' := 339) X228 hx hZ hown (host := "") (Or.inl (own_w hw 57 rfl)) Via.refl e228 f229 f230 (Or.inr ⟨(own_w hw 58 rfl), rfl, hnm⟩) (own_w hw 2 rfl) (ty := .long) (by decide) rfl rfl (hb hby d1_336) rfl ?_
      intro T231 h231 X231 e231 W231
      have z231 : n0 ≤ h231.size := Nat.le_trans z223 (Keep.of_wr W231).1
      have Fw231 := f229.same W231
      have N231 := Fr.snoc X231 N223 g_a1
      have K231 : Keep h0 h231 [a1] := K223.wr W231 (Or.inl (List.mem_of_getElem? (i := 0) rfl))
      have f233 := (((((((((((((((((((((Fw131.other W134 (Or.inr (slot_ne (Or.inr (own_w hw 19 rfl)) (Or.inr (own_w hw 21 rfl)) (by decide) (t := .int) (t' := .long) (by decide +kernel) (by decide +kernel)))).other W137 (Or.inr (slot_ne (Or.inr (own_w hw 19 rfl)) (Or.inr (own_w hw 23 rfl)) (by decide) (t := .int) (t' := .long) (by decide +kernel) (by decide +kernel)))).other W141 (Or.inr (slot_ne (Or.inr (own_w hw 19 rfl)) (Or.inr (own_w hw 25 rfl)) (by decide) (t := .int) (t' := .int) (by decide +kernel) (by decide +kernel)))).other W146 (Or.inr (slot_ne (Or.inr (own_w hw 19 rfl)) (Or.inr (own_w hw 27 rfl)) (by decide) (t := .int) (t' := .long) (by decide +kernel) (by decide +kernel)))).ext E148).keep K152 (ninS ne_a1_b148 nin0)).other W157 (Or.inr (slot_ne (Or.inr (own_w hw 19 rfl)) (Or.inr (own_w hw 30 rfl)) (by decide) (t := .int) (t' := .long) (by decide +kernel) (by decide +kernel)))).other W161 (Or.inr (slot_ne (Or.inr (own_w hw 19 rfl)) (Or.inr (own_w hw 32 rfl)) (by decide) (t := .int) (t' := .long) (by decide +kernel) (by decide +kernel)))).other W165 (Or.inr (slot_ne (Or.inr (own_w hw 19 rfl)) (Or.inr (own_w hw 34 rfl)) (by decide) (t := .int) (t' := .long) (by decide +kernel) (by decide +kernel)))).other W169 (Or.inr (slot_ne (Or.inr (own_w hw 19 rfl)) (Or.inr (own_w hw 36 rfl)) (by decide) (t := .int) (t' := .long) (by decide +kernel) (by decide +kernel)))).other W173 (Or.inr (slot_ne (Or.inr (own_w hw 19 rfl)) (Or.inr (own_w hw 38 rfl)) (by decide) (t := .int) (t' := .long) (by decide +kernel) (by decide +kernel)))).other W176 (Or.inr (slot_ne (Or.inr (own_w hw 19 rfl)) (Or.inr (own_w hw 40 rfl)) (by decide) (t := .int) (t' := .int) (by decide +kernel) (by decide +kernel)))).other W179 (Or.inr (slot_ne (Or.inr (own_w hw 19 rfl)) (Or.inr (own_w hw 42 rfl)) (by decide) (t := .int) (t' := .int) (by decide +kernel) (by decide +kernel)))).other W183 (Or.inr (slot_ne (Or.inr (own_w hw 19 rfl)) (Or.inr (own_w hw 44 rfl)) (by decide) (t := .int) (t' := .int) (by decide +kernel) (by decide +kernel)))).other W187 (Or.inr (slot_ne (Or.inr (own_w hw 19 rfl)) (Or.inr (own_w hw 46 rfl)) (by decide) (t := .int) (t' := .int) (by decide +kernel) (by decide +kernel)))).other W191 (Or.inr (slot_ne (Or.inr (own_w hw 19 rfl)) (Or.inr (own_w hw 48 rfl)) (by decide) (t := .int) (t' := .int) (by decide +kernel) (by decide +kernel)))).other W199 (Or.inr (slot_ne (Or.inr (own_w hw 19 rfl)) (Or.inr (own_w hw 50 rfl)) (by decide) (t := .int) (t' := .long) (by decide +kernel) (by decide +kernel)))).other W207 (Or.inr (slot_ne (Or.inr (own_w hw 19 rfl)) (Or.inr (own_w hw 52 rfl)) (by decide) (t := .int) (t' := .long) (by decide +kernel) (by decide +kernel)))).other W215 (Or.inr (slot_ne (Or.inr (own_w hw 19 rfl)) (Or.inr (own_w hw 54 rfl)) (by decide) (t := .int) (t' := .long) (by decide +kernel) (by decide +kernel)))).other W223 (Or.inr (slot_ne (Or.inr (own_w hw 19 rfl)) (Or.inr (own_w hw 56 rfl)) (by decide) (t := .int) (t' := .long) (by decide +kernel) (by decide +kernel)))).other W231 (Or.inr (slot_ne (Or.inr (own_w hw 19 rfl)) (Or.inr (own_w hw 58 rfl)) (by decide) (t := .int) (t' := .long) (by decide +kernel) (by decide +kernel))))
      have f234 := ((((((((((((((((((((Fw134.other W137 (Or.inr (slot_ne (Or.inr (own_w hw 21 rfl)) (Or.inr (own_w hw 23 rfl)) (by decide) (t := .long) (t' := .long) (by decide +kernel) (by decide +kernel)))).other W141 (Or.inr (slot_ne (Or.inr (own_w hw 21 rfl)) (Or.inr (own_w hw 25 rfl)) (by decide) (t := .long) (t' := .int) (by decide +kernel) (by decide +kernel)))).other W146 (Or.inr (slot_ne (Or.inr (own_w hw 21 rfl)) (Or.inr (own_w hw 27 rfl)) (by decide) (t := .long) (t' := .long) (by decide +kernel) (by decide +kernel)))).ext E148).keep K152 (ninS ne_a1_b148 nin0)).other W157 (Or.inr (slot_ne (Or.inr (own_w hw 21 rfl)) (Or.inr (own_w hw 30 rfl)) (by decide) (t := .long) (t' := .long) (by decide +kernel) (by decide +kernel)))).other W161 (Or.inr (slot_ne (Or.inr (own_w hw 21 rfl)) (Or.inr (own_w hw 32 rfl)) (by decide) (t := .long) (t' := .long) (by decide +kernel) (by decide +kernel)))).other W165 (Or.inr (slot_ne (Or.inr (own_w hw 21 rfl)) (Or.inr (own_w hw 34 rfl)) (by decide) (t := .long) (t' := .long) (by decide +kernel) (by decide +kernel)))).other W169 (Or.inr (slot_ne (Or.inr (own_w hw 21 rfl)) (Or.inr (own_w hw 36 rfl)) (by decide) (t := .long) (t' := .long) (by decide +kernel) (by decide +kernel)))).other W173 (Or.inr (slot_ne (Or.inr (own_w hw 21 rfl)) (Or.inr (own_w hw 38 rfl)) (by decide) (t := .long) (t' := .long) (by decide +kernel) (by decide +kernel)))).other W176 (Or.inr (slot_ne (Or.inr (own_w hw 21 rfl)) (Or.inr (own_w hw 40 rfl)) (by decide) (t := .long) (t' := .int) (by decide +kernel) (by decide +kernel)))).other W179 (Or.inr (slot_ne (Or.inr (own_w hw 21 rfl)) (Or.inr (own_w hw 42 rfl)) (by decide) (t := .long) (t' := .int) (by decide +kernel) (by decide +kernel)))).other W183 (Or.inr (slot_ne (Or.inr (own_w hw 21 rfl)) (Or.inr (own_w hw 44 rfl)) (by decide) (t := .long) (t' := .int) (by decide +kernel) (by decide +kernel)))).other W187 (Or.inr (slot_ne (Or.inr (own_w hw 21 rfl)) (Or.inr (own_w hw 46 rfl)) (by decide) (t := .long) (t' := .int) (by decide +kernel) (by decide +kernel)))).other W191 (Or.inr (slot_ne (Or.inr (own_w hw 21 rfl)) (Or.inr (own_w hw 48 rfl)) (by decide) (t := .long) (t' := .int) (by decide +kernel) (by decide +kernel)))).other W199 (Or.inr (slot_ne (Or.inr (own_w hw 21 rfl)) (Or.inr (own_w hw 50 rfl)) (by decide) (t := .long) (t' := .long) (by decide +kernel) (by decide +kernel)))).other W207 (Or.inr (slot_ne (Or.inr (own_w hw 21 rfl)) (Or.inr (own_w hw 52 rfl)) (by decide) (t := .long) (t' := .long) (by decide +kernel) (by decide +kernel)))).other W215 (Or.inr (slot_ne (Or.inr (own_w hw 21 rfl)) (Or.inr (own_w hw 54 rfl)) (by decide) (t := .long) (t' := .long) (by decide +kernel) (by decide +kernel)))).other W223 (Or.inr (slot_ne (Or.inr (own_w hw 21 rfl)) (Or.inr (own_w hw 56 rfl)) (by decide) (t := .long) (t' := .long) (by decide +kernel) (by decide +kernel)))).other W231 (Or.inr (slot_ne (Or.inr (own_w hw 21 rfl)) (Or.inr (own_w hw 58 rfl)) (by decide) (t := .long) (t' := .long) (by decide +kernel) (by decide +kernel))))
      have f235 := (((((((((((((((((Fw146.ext E148).keep K152 (ninS ne_a1_b148 nin0)).other W157 (Or.inr (slot_ne (Or.inr (own_w hw 27 rfl)) (Or.inr (own_w hw 30 rfl)) (by decide) (t := .long) (t' := .long) (by decide +kernel) (by decide +kernel)))).other W161 (Or.inr (slot_ne (Or.inr (own_w hw 27 rfl)) (Or.inr (own_w hw 32 rfl)) (by decide) (t := .long) (t' := .long) (by decide +kernel) (by decide +kernel)))).other W165 (Or.inr (slot_ne (Or.inr (own_w hw 27 rfl)) (Or.inr (own_w hw 34 rfl)) (by decide) (t := .long) (t' := .long) (by decide +kernel) (by decide +kernel)))).other W169 (Or.inr (slot_ne (Or.inr (own_w hw 27 rfl)) (Or.inr (own_w hw 36 rfl)) (by decide) (t := .long) (t' := .long) (by decide +kernel) (by decide +kernel)))).other W173 (Or.inr (slot_ne (Or.inr (own_w hw 27 rfl)) (Or.inr (own_w hw 38 rfl)) (by decide) (t := .long) (t' := .long) (by decide +kernel) (by decide +kernel)))).other W176 (Or.inr (slot_ne (Or.inr (own_w hw 27 rfl)) (Or.inr (own_w hw 40 rfl)) (by decide) (t := .long) (t' := .int) (by decide +kernel) (by decide +kernel)))).other W179 (Or.inr (slot_ne (Or.inr (own_w hw 27 rfl)) (Or.inr (own_w hw 42 rfl)) (by decide) (t := .long) (t' := .int) (by decide +kernel) (by decide +kernel)))).other W183 (Or.inr (slot_ne (Or.inr (own_w hw 27 rfl)) (Or.inr (own_w hw 44 rfl)) (by decide) (t := .long) (t' := .int) (by decide +kernel) (by decide +kernel)))).other W187 (Or.inr (slot_ne (Or.inr (own_w hw 27 rfl)) (Or.inr (own_w hw 46 rfl)) (by decide) (t := .long) (t' := .int) (by decide +kernel) (by decide +kernel)))).other W191 (Or.inr (slot_ne (Or.inr (own_w hw 27 rfl)) (Or.inr (own_w hw 48 rfl)) (by decide) (t := .long) (t' := .int) (by decide +kernel) (by decide +kernel)))).other W199 (Or.inr (slot_ne (Or.inr (own_w hw 27 rfl)) (Or.inr (own_w hw 50 rfl)) (by decide) (t := .long) (t' := .long) (by decide +kernel) (by decide +kernel)))).other W207 (Or.inr (slot_ne (Or.inr (own_w hw 27 rfl)) (Or.inr (own_w hw 52 rfl)) (by decide) (t := .long) (t' := .long) (by decide +kernel) (by decide +kernel)))).other W215 (Or.inr (slot_ne (Or.inr (own_w hw 27 rfl)) (Or.inr (own_w hw 54 rfl)) (by decide) (t := .long) (t' := .long) (by decide +kernel) (by decide +kernel)))).other W223 (Or.inr (slot_ne (Or.inr (own_w hw 27 rfl)) (Or.inr (own_w hw 56 rfl)) (by decide) (t := .long) (t' := .long) (by decide +kernel) (by decide +kernel)))).other W231 (Or.inr (slot_ne (Or.inr (own_w hw 27 rfl)) (Or.inr (own_w hw 58 rfl)) (by decide) (t := .long) (t' := .long) (by decide +kernel) (by decide +kernel))))
      have f236 := (((((((((((((((f153.other W157 (Or.inr (slot_ne (Or.inr (own_w hw 16 rfl)) (Or.inr (own_w hw 30 rfl)) (by decide) (t := .int) (t' := .long) (by decide +kernel) (by decide +kernel)))).other W161 (Or.inr (slot_ne (Or.inr (own_w hw 16 rfl)) (Or.inr (own_w hw 32 rfl)) (by decide) (t := .int) (t' := .long) (by decide +kernel) (by decide +kernel)))).other W165 (Or.inr (slot_ne (Or.inr (own_w hw 16 rfl)) (Or.inr (own_w hw 34 rfl)) (by decide) (t := .int) (t' := .long) (by decide +kernel) (by decide +kernel)))).other W169 (Or.inr (slot_ne (Or.inr (own_w hw 16 rfl)) (Or.inr (own_w hw 36 rfl)) (by decide) (t := .int) (t' := .long) (by decide +kernel) (by decide +kernel)))).other W173 (Or.inr (slot_ne (Or.inr (own_w hw 16 rfl)) (Or.inr (own_w hw 38 rfl)) (by decide) (t := .int) (t' := .long) (by decide +kernel) (by decide +kernel)))).other W176 (Or.inr (slot_ne (Or.inr (own_w hw 16 rfl)) (Or.inr (own_w hw 40 rfl)) (by decide) (t := .int) (t' := .int) (by decide +kernel) (by decide +kernel)))).other W179 (Or.inr (slot_ne (Or.inr (own_w hw 16 rfl)) (Or.inr (own_w hw 42 rfl)) (by decide) (t := .int) (t' := .int) (by decide +kernel) (by decide +kernel)))).other W183 (Or.inr (slot_ne (Or.inr (own_w hw 16 rfl)) (Or.inr (own_w hw 44 rfl)) (by decide) (t := .int) (t' := .int) (by decide +kernel) (by decide +kernel)))).other W187 (Or.inr (slot_ne (Or.inr (own_w hw 16 rfl)) (Or.inr (own_w hw 46 rfl)) (by decide) (t := .int) (t' := .int) (by decide +kernel) (by decide +kernel)))).other W191 (Or.inr (slot_ne (Or.inr (own_w hw 16 rfl)) (Or.inr (own_w hw 48 rfl)) (by decide) (t := .int) (t' := .int) (by decide +kernel) (by decide +kernel)))).other W199 (Or.inr (slot_ne (Or.inr (own_w hw 16 rfl)) (Or.inr (own_w hw 50 rfl)) (by decide) (t := .int) (t' := .long) (by decide +kernel) (by decide +kernel)))).other W207 (Or.inr (slot_ne (Or.inr (own_w hw 16 rfl)) (Or.inr (own_w hw 52 rfl)) (by decide) (t := .int) (t' := .long) (by decide +kernel) (by decide +kernel)))).other W215 (Or.inr (slot_ne (Or.inr (own_w hw 16 rfl)) (Or.inr (own_w hw 54 rfl)) (by decide) (t := .int) (t' := .long) (by decide +kernel) (by decide +kernel)))).other W223 (Or.inr (slot_ne (Or.inr (own_w hw 16 rfl)) (Or.inr (own_w hw 56 rfl)) (by decide) (t := .int) (t' := .long) (by decide +kernel) (by decide +kernel)))).other W231 (Or.inr (slot_ne (Or.inr (own_w hw 16 rfl)) (Or.inr (own_w hw 58 rfl)) (by decide) (t := .int) (t' := .long) (by decide +kernel) (by decide +kernel))))
      have f237 := (((((f193.other W199 (Or.inr (slot_ne (Or.inr (own_w hw 30 rfl)) (Or.inr (own_w hw 50 rfl)) (by decide) (t := .long) (t' := .long) (by decide +kernel) (by decide +kernel)))).other W207 (Or.inr (slot_ne (Or.inr (own_w hw 30 rfl)) (Or.inr (own_w hw 52 rfl)) (by decide) (t := .long) (t' := .long) (by decide +kernel) (by decide +kernel)))).other W215 (Or.inr (slot_ne (Or.inr (own_w hw 30 rfl)) (Or.inr (own_w hw 54 rfl)) (by decide) (t := .long) (t' := .long) (by decide +kernel) (by decide +kernel)))).other W223 (Or.inr (slot_ne (Or.inr (own_w hw 30 rfl)) (Or.inr (own_w hw 56 rfl)) (by decide) (t := .long) (t' := .long) (by decide +kernel) (by decide +kernel)))).other W231 (Or.inr (slot_ne (Or.inr (own_w hw 30 rfl)) (Or.inr (own_w hw 58 rfl)) (by decide) (t := .long) (t' := .long) (by decide +kernel) (by decide +kernel))))
      have f238 := ((((f201.other W207 (Or.inr (slot_ne (Or.inr (own_w hw 32 rfl)) (Or.inr (own_w hw 52 rfl)) (by decide) (t := .long) (t' := .long) (by decide +kernel) (by decide +kernel)))).other W215 (Or.inr (slot_ne (Or.inr (own_w hw 32 rfl)) (Or.inr (own_w hw 54 rfl)) (by decide) (t := .long) (t' := .long) (by decide +kernel) (by decide +kernel)))).other W223 (Or.inr (slot_ne (Or.inr (own_w hw 32 rfl)) (Or.inr (own_w hw 56 rfl)) (by decide) (t := .long) (t' := .long) (by decide +kernel) (by decide +kernel)))).other W231 (Or.inr (slot_ne (Or.inr (own_w hw 32 rfl)) (Or.inr (own_w hw 58 rfl)) (by decide) (t := .long) (t' := .long) (by decide +kernel) (by decide +kernel))))
      have f239 := (((f209.other W215 (Or.inr (slot_ne (Or.inr (own_w hw 34 rfl)) (Or.inr (own_w hw 54 rfl)) (by decide) (t := .long) (t' := .long) (by decide +kernel) (by decide +kernel)))).other W223 (Or.inr (slot_ne (Or.inr (own_w hw 34 rfl)) (Or.inr (own_w hw 56 rfl)) (by decide) (t := .long) (t' := .long) (by decide +kernel) (by decide +kernel)))).other W231 (Or.inr (slot_ne (Or.inr (own_w hw 34 rfl)) (Or.inr (own_w hw 58 rfl)) (by decide) (t := .long) (t' := .long) (by decide +kernel) (by decide +kernel))))
      have f240 := ((f217.other W223 (Or.inr (slot_ne (Or.inr (own_w hw 36 rfl)) (Or.inr (own_w hw 56 rfl)) (by decide) (t := .long) (t' := .long) (by decide +kernel) (by decide +kernel)))).other W231 (Or.inr (slot_ne (Or.inr (own_w hw 36 rfl)) (Or.inr (own_w hw 58 rfl)) (by decide) (t := .long) (t' := .long) (by decide +kernel) (by decide +kernel))))
      have f241 := (f225.other W231 (Or.inr (slot_ne (Or.inr (own_w hw 38 rfl)) (Or.inr (own_w hw 58 rfl)) (by decide) (t := .long) (t' := .long) (by decide +kernel) (by decide +kernel))))
      have f242 := ((((Fw199.other W207 (Or.inr (slot_ne (Or.inr (own_w hw 50 rfl)) (Or.inr (own_w hw 52 rfl)) (by decide) (t := .long) (t' := .long) (by decide +kernel) (by decide +kernel)))).other W215 (Or.inr (slot_ne (Or.inr (own_w hw 50 rfl)) (Or.inr (own_w hw 54 rfl)) (by decide) (t := .long) (t' := .long) (by decide +kernel) (by decide +kernel)))).other W223 (Or.inr (slot_ne (Or.inr (own_w hw 50 rfl)) (Or.inr (own_w hw 56 rfl)) (by decide) (t := .long) (t' := .long) (by decide +kernel) (by decide +kernel)))).other W231 (Or.inr (slot_ne (Or.inr (own_w hw 50 rfl)) (Or.inr (own_w hw 58 rfl)) (by decide) (t := .long) (t' := .long) (by decide +kernel) (by decide +kernel))))
      have f243 := (((Fw207.other W215 (Or.inr (slot_ne (Or.inr (own_w hw 52 rfl)) (Or.inr (own_w hw 54 rfl)) (by decide) (t := .long) (t' := .long) (by decide +kernel) (by decide +kernel)))).other W223 (Or.inr (slot_ne (Or.inr (own_w hw 52 rfl)) (Or.inr (own_w hw 56 rfl)) (by decide) (t := .long) (t' := .long) (by decide +kernel) (by decide +kernel)))).other W231 (Or.inr (slot_ne (Or.inr (own_w hw 52 rfl)) (Or.inr (own_w hw 58 rfl)) (by decide) (t := .long) (t' := .long) (by decide +kernel) (by decide +kernel))))
      have f244 := ((Fw215.other W223 (Or.inr (slot_ne (Or.inr (own_w hw 54 rfl)) (Or.inr (own_w hw 56 rfl)) (by decide) (t := .long) (t' := .long) (by decide +kernel) (by decide +kernel)))).other W231 (Or.inr (slot_ne (Or.inr (own_w hw 54 rfl)) (Or.inr (own_w hw 58 rfl)) (by decide) (t := .long) (t' := .long) (by decide +kernel) (by decide +kernel))))
      have f245 := (Fw223.other W231 (Or.inr (slot_ne (Or.inr (own_w hw 56 rfl)) (Or.inr (own_w hw 58 rfl)) (by decide) (t := .long) (t' := .long) (by decide +kernel) (by decide +kernel))))
      have f246 := (((((f195.other W199 (Or.inr (slot_ne (Or.inr (own_w hw 40 rfl)) (Or.inr (own_w hw 50 rfl)) (by decide) (t := .int) (t' := .long) (by decide +kernel) (by decide +kernel)))).other W207 (Or.inr (slot_ne (Or.inr (own_w hw 40 rfl)) (Or.inr (own_w hw 52 rfl)) (by decide) (t := .int) (t' := .long) (by decide +kernel) (by decide +kernel)))).other W215 (Or.inr (slot_ne (Or.inr (own_w hw 40 rfl)) (Or.inr (own_w hw 54 rfl)) (by decide) (t := .int) (t' := .long) (by decide +kernel) (by decide +kernel)))).other W223 (Or.inr (slot_ne (Or.inr (own_w hw 40 rfl)) (Or.inr (own_w hw 56 rfl)) (by decide) (t := .int) (t' := .long) (by decide +kernel) (by decide +kernel)))).other W231 (Or.inr (slot_ne (Or.inr (own_w hw 40 rfl)) (Or.inr (own_w hw 58 rfl)) (by decide) (t := .int) (t' := .long) (by decide +kernel) (by decide +kernel))))
      have f247 := ((((f203.other W207 (Or.inr (slot_ne (Or.inr (own_w hw 42 rfl)) (Or.inr (own_w hw 52 rfl)) (by decide) (t := .int) (t' := .long) (by decide +kernel) (by decide +kernel)))).other W215 (Or.inr (slot_ne (Or.inr (own_w hw 42 rfl)) (Or.inr (own_w hw 54 rfl)) (by decide) (t := .int) (t' := .long) (by decide +kernel) (by decide +kernel)))).other W223 (Or.inr (slot_ne (Or.inr (own_w hw 42 rfl)) (Or.inr (own_w hw 56 rfl)) (by decide) (t := .int) (t' := .long) (by decide +kernel) (by decide +kernel)))).other W231 (Or.inr (slot_ne (Or.inr (own_w hw 42 rfl)) (Or.inr (own_w hw 58 rfl)) (by decide) (t := .int) (t' := .long) (by decide +kernel) (by decide +kernel))))
      have f248 := (((f211.other W215 (Or.inr (slot_ne (Or.inr (own_w hw 44 rfl)) (Or.inr (own_w hw 54 rfl)) (by decide) (t := .int) (t' := .long) (by decide +kernel) (by decide +kernel)))).other W223 (Or.inr (slot_ne (Or.inr (own_w hw 44 rfl)) (Or.inr (own_w hw 56 rfl)) (by decide) (t := .int) (t' := .long) (by decide +kernel) (by decide +kernel)))).other W231 (Or.inr (slot_ne (Or.inr (own_w hw 44 rfl)) (Or.inr (own_w hw 58 rfl)) (by decide) (t := .int) (t' := .long) (by decide +kernel) (by decide +kernel))))
      have f249 := ((f219.other W223 (Or.inr (slot_ne (Or.inr (own_w hw 46 rfl)) (Or.inr (own_w hw 56 rfl)) (by decide) (t := .int) (t' := .long) (by decide +kernel) (by decide +kernel)))).other W231 (Or.inr (slot_ne (Or.inr (own_w hw 46 rfl)) (Or.inr (own_w hw 58 rfl)) (by decide) (t := .int) (t' := .long) (by decide +kernel) (by decide +kernel))))
      have f250 := (f227.other W231 (Or.inr (slot_ne (Or.inr (own_w hw 48 rfl)) (Or.inr (own_w hw 58 rfl)) (by decide) (t := .int) (t' := .long) (by decide +kernel) (by decide +kernel))))
      have f251 := (f230.wr W231)
      refine own_ret0 X231 hx hlk hret (hb hby d1_339) (by decide) (by decide) ?_
      rw [e231]
      have hlow : ∀ x, own_bit v147 x = decide (x < nn * wn) := by rw [hv147]; exact own_wbq _ _ (by rw [hv142]; exact own_mulN hN hW (by omega)) (by have := Nat.mul_le_mul hn1 hw1; omega) hcn
      have hd0 : v2.toBitVec.toNat % 64 = 2 ^ 0 * (pn - wn) := by have q := own_shq _ _ hG; have lt0 := (own_dlt hsp hw1 (hRP.2.2 0 (by decide))); show v2.toBitVec.toNat % 64 = 2 ^ 0 * (pn - wn); rw [q]; omega
      have hWM : own_WM wn pn nn 1 vS v147 (own_5 mv152 (0 : Int64) (0 : Int64) (0 : Int64) (0 : Int64)) (own_5 v200 v208 v216 v224 v232) (own_5 v2 v180 v184 v188 v192) := by
        refine ⟨hRP, hUS, hlow, fun r hr => ?_⟩
        rcases (show r = 0 by omega) with rfl
        · exact ⟨hU152, hv200, hd0⟩
      exact ⟨1, _, _, _, _, _, _, _, _, _, _, _, _, _, _, _, _, _, _, by decide, hWM, rfl, N231, K231, f251, f233, f234, f235, f236, f237, f238, f239, f240, f241, f242, f243, f244, f245, Fw231, f246, f247, f248, f249, f250⟩
    · obtain rfl : jr = (2 : Int32) := Int32.toInt_inj.mp (hRR.trans (by decide))
      show own_WP _ _ _ _ _ _ _ (T4.setTop (mkF m 29 #[.val (.ref a1), .val (.int st), .val (.int w), .val (.int p'), .val (.int n'), .val (.int v2), .unset, .unset, .unset, .unset, .unset, .unset, .unset, .unset] [(.int (2 : Int32)), (.ref a1)]))
      refine own_putF (pc' := 32) X4 hx hZ hown (host := "") (Or.inl (own_w hw 15 rfl)) Via.refl e4 F_rounds E1 (Or.inr ⟨(own_w hw 16 rfl), rfl, hnm⟩) (own_w hw 2 rfl) (ty := .int) (by decide) rfl rfl (hb hby d1_29) rfl ?_
      intro T252 h252 X252 e252 W252
      have z252 : n0 ≤ h252.size := Nat.le_trans Z0 (Keep.of_wr W252).1
      have Fw252 := F_rounds.same W252
      have N252 := Fr.snoc X252 N4 g_a1
      have K252 : Keep h0 h252 [a1] := (Keep.refl h0 [a1]).wr W252 (Or.inl (List.mem_of_getElem? (i := 0) rfl))
      refine own_ldc2Long (pc' := 35) X252 hx hZ hown (own_w hw 17 rfl) (hb hby d1_32) rfl ?_
      refine own_bipush (pc' := 37) X252 hx (64 : Int32) (hb hby d1_35) rfl rfl ?_
      refine own_iloadN (pc' := 38) X252 hx (hb hby d1_37) rfl rfl ?_
      refine own_isub (pc' := 39) X252 hx (hb hby d1_38) rfl ?_
      refine own_lushr (pc' := 40) X252 hx (hb hby d1_39) rfl ?_
      obtain ⟨v253, hv253⟩ : ∃ z : Int64, z = (((-1 : Int64).toUInt64 >>> (((64 : Int32) - w) &&& 0x3f).toInt64.toUInt64).toInt64) := ⟨_, rfl⟩
      refine own_lstore (pc' := 42) (l' := #[.val (.ref a1), .val (.int st), .val (.int w), .val (.int p'), .val (.int n'), .val (.int v2), .val (.long v253), .second, .unset, .unset, .unset, .unset, .unset, .unset]) X252 hx (hb hby d1_40) hv253 rfl rfl ?_
      refine own_lconst0 (pc' := 43) X252 hx (hb hby d1_42) rfl ?_
      refine own_lstore (pc' := 45) (l' := #[.val (.ref a1), .val (.int st), .val (.int w), .val (.int p'), .val (.int n'), .val (.int v2), .val (.long v253), .second, .val (.long (0 : Int64)), .second, .unset, .unset, .unset, .unset]) X252 hx (hb hby d1_43) rfl rfl rfl ?_
      refine own_iconst (pc' := 46) X252 hx (0 : Int32) (hb hby d1_45) rfl rfl ?_
      refine own_istore (pc' := 48) (l' := #[.val (.ref a1), .val (.int st), .val (.int w), .val (.int p'), .val (.int n'), .val (.int v2), .val (.long v253), .second, .val (.long (0 : Int64)), .second, .val (.int (0 : Int32)), .unset, .unset, .unset]) X252 hx (hb hby d1_46) rfl rfl rfl ?_
      have hwb : ∀ x, own_bit v253 x = decide (x < wn) := by rw [hv253]; exact own_wbq w wn hW hw1 (by omega)
      refine lpS hw hx hby hml hown hZ X252 a1 st w p' n' v2 v253 wn pn nn hW hP hN hw1 hwp hsp hwb (fun vS runS hUS => ?_) _ 0 0 0 rfl (Nat.zero_le _) (by decide) (own_Up0 _ _ _ _)
      show own_WP _ _ _ _ _ _ _ (T252.setTop (mkF m 73 #[.val (.ref a1), .val (.int st), .val (.int w), .val (.int p'), .val (.int n'), .val (.int v2), .val (.long v253), .second, .val (.long vS), .second, .val (.int runS), .unset, .unset, .unset] []))
      refine own_aloadN (pc' := 74) X252 hx (hb hby d1_73) rfl rfl rfl ?_
      refine own_iloadN (pc' := 75) X252 hx (hb hby d1_74) rfl rfl ?_
      have f254 := (F_start.other W252 (Or.inr (slot_ne (Or.inr (own_w hw 19 rfl)) (Or.inr (own_w hw 16 rfl)) (by decide) (t := .int) (t' := .int) (by decide +kernel) (by decide +kernel))))
      have f255 := (E1.wr W252)
      refine own_putF (pc' := 78) X252 hx hZ hown (host := "") (Or.inl (own_w hw 18 rfl)) Via.refl e252 f254 f255 (Or.inr ⟨(own_w hw 19 rfl), rfl, hnm⟩) (own_w hw 2 rfl) (ty := .int) (by decide) rfl rfl (hb hby d1_75) rfl ?_
      intro T256 h256 X256 e256 W256
      have z256 : n0 ≤ h256.size := Nat.le_trans z252 (Keep.of_wr W256).1
      have Fw256 := f254.same W256
      have N256 := Fr.snoc X256 N252 g_a1
      have K256 : Keep h0 h256 [a1] := K252.wr W256 (Or.inl (List.mem_of_getElem? (i := 0) rfl))
      refine own_aloadN (pc' := 79) X256 hx (hb hby d1_78) rfl rfl rfl ?_
      refine own_lload (pc' := 81) X256 hx (hb hby d1_79) rfl rfl ?_
      have f257 := ((F_runs.other W252 (Or.inr (slot_ne (Or.inr (own_w hw 21 rfl)) (Or.inr (own_w hw 16 rfl)) (by decide) (t := .long) (t' := .int) (by decide +kernel) (by decide +kernel)))).other W256 (Or.inr (slot_ne (Or.inr (own_w hw 21 rfl)) (Or.inr (own_w hw 19 rfl)) (by decide) (t := .long) (t' := .int) (by decide +kernel) (by decide +kernel))))
      have f258 := (f255.wr W256)
      refine own_putF (pc' := 84) X256 hx hZ hown (host := "") (Or.inl (own_w hw 20 rfl)) Via.refl e256 f257 f258 (Or.inr ⟨(own_w hw 21 rfl), rfl, hnm⟩) (own_w hw 2 rfl) (ty := .long) (by decide) rfl rfl (hb hby d1_81) rfl ?_
      intro T259 h259 X259 e259 W259
      have z259 : n0 ≤ h259.size := Nat.le_trans z256 (Keep.of_wr W259).1
      have Fw259 := f257.same W259
      have N259 := Fr.snoc X259 N256 g_a1
      have K259 : Keep h0 h259 [a1] := K256.wr W259 (Or.inl (List.mem_of_getElem? (i := 0) rfl))
      refine own_aloadN (pc' := 85) X259 hx (hb hby d1_84) rfl rfl rfl ?_
      refine own_lload (pc' := 87) X259 hx (hb hby d1_85) rfl rfl ?_
      refine own_iloadN (pc' := 88) X259 hx (hb hby d1_87) rfl rfl ?_
      refine own_lshl (pc' := 89) X259 hx (hb hby d1_88) rfl ?_
      have f260 := (((F_mask.other W252 (Or.inr (slot_ne (Or.inr (own_w hw 23 rfl)) (Or.inr (own_w hw 16 rfl)) (by decide) (t := .long) (t' := .int) (by decide +kernel) (by decide +kernel)))).other W256 (Or.inr (slot_ne (Or.inr (own_w hw 23 rfl)) (Or.inr (own_w hw 19 rfl)) (by decide) (t := .long) (t' := .int) (by decide +kernel) (by decide +kernel)))).other W259 (Or.inr (slot_ne (Or.inr (own_w hw 23 rfl)) (Or.inr (own_w hw 21 rfl)) (by decide) (t := .long) (t' := .long) (by decide +kernel) (by decide +kernel))))
      have f261 := (f258.wr W259)
      obtain ⟨v263, hv263⟩ : ∃ z : Int64, z = (vS <<< (st &&& 0x3f).toInt64) := ⟨_, rfl⟩
      rw [← hv263]
      refine own_putF (pc' := 92) X259 hx hZ hown (host := "") (Or.inl (own_w hw 22 rfl)) Via.refl e259 f260 f261 (Or.inr ⟨(own_w hw 23 rfl), rfl, hnm⟩) (own_w hw 2 rfl) (ty := .long) (by decide) rfl rfl (hb hby d1_89) rfl ?_
      intro T262 h262 X262 e262 W262
      have z262 : n0 ≤ h262.size := Nat.le_trans z259 (Keep.of_wr W262).1
      have Fw262 := f260.same W262
      have N262 := Fr.snoc X262 N259 g_a1
      have K262 : Keep h0 h262 [a1] := K259.wr W262 (Or.inl (List.mem_of_getElem? (i := 0) rfl))
      refine own_aloadN (pc' := 93) X262 hx (hb hby d1_92) rfl rfl rfl ?_
      refine own_iload (pc' := 95) X262 hx (hb hby d1_93) rfl rfl ?_
      refine own_iloadN (pc' := 96) X262 hx (hb hby d1_95) rfl rfl ?_
      refine own_imul (pc' := 97) X262 hx (hb hby d1_96) rfl ?_
      have f264 := ((((F_count.other W252 (Or.inr (slot_ne (Or.inr (own_w hw 25 rfl)) (Or.inr (own_w hw 16 rfl)) (by decide) (t := .int) (t' := .int) (by decide +kernel) (by decide +kernel)))).other W256 (Or.inr (slot_ne (Or.inr (own_w hw 25 rfl)) (Or.inr (own_w hw 19 rfl)) (by decide) (t := .int) (t' := .int) (by decide +kernel) (by decide +kernel)))).other W259 (Or.inr (slot_ne (Or.inr (own_w hw 25 rfl)) (Or.inr (own_w hw 21 rfl)) (by decide) (t := .int) (t' := .long) (by decide +kernel) (by decide +kernel)))).other W262 (Or.inr (slot_ne (Or.inr (own_w hw 25 rfl)) (Or.inr (own_w hw 23 rfl)) (by decide) (t := .int) (t' := .long) (by decide +kernel) (by decide +kernel))))
      have f265 := (f261.wr W262)
      obtain ⟨v267, hv267⟩ : ∃ z : Int32, z = (n' * w) := ⟨_, rfl⟩
      rw [← hv267]
      refine own_putF (pc' := 100) X262 hx hZ hown (host := "") (Or.inl (own_w hw 24 rfl)) Via.refl e262 f264 f265 (Or.inr ⟨(own_w hw 25 rfl), rfl, hnm⟩) (own_w hw 2 rfl) (ty := .int) (by decide) rfl rfl (hb hby d1_97) rfl ?_
      intro T266 h266 X266 e266 W266
      have z266 : n0 ≤ h266.size := Nat.le_trans z262 (Keep.of_wr W266).1
      have Fw266 := f264.same W266
      have N266 := Fr.snoc X266 N262 g_a1
      have K266 : Keep h0 h266 [a1] := K262.wr W266 (Or.inl (List.mem_of_getElem? (i := 0) rfl))
      refine own_aloadN (pc' := 101) X266 hx (hb hby d1_100) rfl rfl rfl ?_
      refine own_ldc2Long (pc' := 104) X266 hx hZ hown (own_w hw 17 rfl) (hb hby d1_101) rfl ?_
      refine own_bipush (pc' := 106) X266 hx (64 : Int32) (hb hby d1_104) rfl rfl ?_
      refine own_aloadN (pc' := 107) X266 hx (hb hby d1_106) rfl rfl rfl ?_
      refine own_getF (pc' := 110) X266 hx hZ hown (host := "") (Or.inl (own_w hw 24 rfl)) Via.refl e266 Fw266 (hb hby d1_107) rfl ?_
      intro T268 X268 e268
      refine own_isub (pc' := 111) X268 hx (hb hby d1_110) rfl ?_
      refine own_lushr (pc' := 112) X268 hx (hb hby d1_111) rfl ?_
      have f269 := (((((F_low.other W252 (Or.inr (slot_ne (Or.inr (own_w hw 27 rfl)) (Or.inr (own_w hw 16 rfl)) (by decide) (t := .long) (t' := .int) (by decide +kernel) (by decide +kernel)))).other W256 (Or.inr (slot_ne (Or.inr (own_w hw 27 rfl)) (Or.inr (own_w hw 19 rfl)) (by decide) (t := .long) (t' := .int) (by decide +kernel) (by decide +kernel)))).other W259 (Or.inr (slot_ne (Or.inr (own_w hw 27 rfl)) (Or.inr (own_w hw 21 rfl)) (by decide) (t := .long) (t' := .long) (by decide +kernel) (by decide +kernel)))).other W262 (Or.inr (slot_ne (Or.inr (own_w hw 27 rfl)) (Or.inr (own_w hw 23 rfl)) (by decide) (t := .long) (t' := .long) (by decide +kernel) (by decide +kernel)))).other W266 (Or.inr (slot_ne (Or.inr (own_w hw 27 rfl)) (Or.inr (own_w hw 25 rfl)) (by decide) (t := .long) (t' := .int) (by decide +kernel) (by decide +kernel))))
      have f270 := (f265.wr W266)
      obtain ⟨v272, hv272⟩ : ∃ z : Int64, z = (((-1 : Int64).toUInt64 >>> (((64 : Int32) - v267) &&& 0x3f).toInt64.toUInt64).toInt64) := ⟨_, rfl⟩
      rw [← hv272]
      refine own_putF (pc' := 115) X268 hx hZ hown (host := "") (Or.inl (own_w hw 26 rfl)) Via.refl e268 f269 f270 (Or.inr ⟨(own_w hw 27 rfl), rfl, hnm⟩) (own_w hw 2 rfl) (ty := .long) (by decide) rfl rfl (hb hby d1_112) rfl ?_
      intro T271 h271 X271 e271 W271
      have z271 : n0 ≤ h271.size := Nat.le_trans z266 (Keep.of_wr W271).1
      have Fw271 := f269.same W271
      have N271 := Fr.snoc X271 N266 g_a1
      have K271 : Keep h0 h271 [a1] := K266.wr W271 (Or.inl (List.mem_of_getElem? (i := 0) rfl))
      refine own_iconst (pc' := 116) X271 hx (5 : Int32) (hb hby d1_115) rfl rfl ?_
      refine own_newP (pc' := 118) (cap := 5) X271 hx hZ (own_w hw 28 rfl) e271 (hb hby d1_116) (by decide) (by decide) (by decide) (by decide) (by decide) rfl ?_
      intro T273 h273 k273 b273 g273 X273 e273 E273 A273
      have f274 := (f270.wr W271)
      have ne_a1_b273 : a1 ≠ b273 := Nat.ne_of_lt (Nat.lt_of_lt_of_le f274.lt (Nat.le_of_eq g273.symm))
      have ne_b273_a1 := ne_a1_b273.symm
      have g_b273 : n0 ≤ b273 := Nat.le_trans z271 (Nat.le_of_eq g273.symm)
      have sz_b273 : h0.size ≤ b273 := Nat.le_trans K271.1 (Nat.le_of_eq g273.symm)
      have z273 : n0 ≤ h273.size := Nat.le_trans z271 E273.1
      have K273 : Keep h0 h273 [a1] := K271.ext E273
      have V273 : Arv Z h273 b273 k273 .long (5 : Int32) [(.long (0 : Int64)), (.long (0 : Int64)), (.long (0 : Int64)), (.long (0 : Int64)), (.long (0 : Int64))] (.long (0 : Int64)) := (Arv.new A273 (by decide)).pad (pad_rep [] (.long (0 : Int64)) 5)
      refine own_astore (pc' := 120) (l' := #[.val (.ref a1), .val (.int st), .val (.int w), .val (.int p'), .val (.int n'), .val (.int v2), .val (.long v253), .second, .val (.long vS), .second, .val (.ref b273), .unset, .unset, .unset]) X273 hx (hb hby d1_118) rfl rfl rfl ?_
      refine own_iconst (pc' := 121) X273 hx (0 : Int32) (hb hby d1_120) rfl rfl ?_
      refine own_istore (pc' := 123) (l' := #[.val (.ref a1), .val (.int st), .val (.int w), .val (.int p'), .val (.int n'), .val (.int v2), .val (.long v253), .second, .val (.long vS), .second, .val (.ref b273), .val (.int (0 : Int32)), .unset, .unset]) X273 hx (hb hby d1_121) rfl rfl rfl ?_
      refine own_iload (pc' := 125) X273 hx (hb hby d1_123) rfl rfl ?_
      refine own_aloadN (pc' := 126) X273 hx (hb hby d1_125) rfl rfl rfl ?_
      have f275 := ((((((Fw252.other W256 (Or.inr (slot_ne (Or.inr (own_w hw 16 rfl)) (Or.inr (own_w hw 19 rfl)) (by decide) (t := .int) (t' := .int) (by decide +kernel) (by decide +kernel)))).other W259 (Or.inr (slot_ne (Or.inr (own_w hw 16 rfl)) (Or.inr (own_w hw 21 rfl)) (by decide) (t := .int) (t' := .long) (by decide +kernel) (by decide +kernel)))).other W262 (Or.inr (slot_ne (Or.inr (own_w hw 16 rfl)) (Or.inr (own_w hw 23 rfl)) (by decide) (t := .int) (t' := .long) (by decide +kernel) (by decide +kernel)))).other W266 (Or.inr (slot_ne (Or.inr (own_w hw 16 rfl)) (Or.inr (own_w hw 25 rfl)) (by decide) (t := .int) (t' := .int) (by decide +kernel) (by decide +kernel)))).other W271 (Or.inr (slot_ne (Or.inr (own_w hw 16 rfl)) (Or.inr (own_w hw 27 rfl)) (by decide) (t := .int) (t' := .long) (by decide +kernel) (by decide +kernel)))).ext E273)
      refine own_getF (pc' := 129) X273 hx hZ hown (host := "") (Or.inl (own_w hw 15 rfl)) Via.refl e273 f275 (hb hby d1_126) rfl ?_
      intro T276 X276 e276
      refine own_icmp_ge (pt := 196) (pf := 132) X276 hx (hb hby d1_129) rfl (by decide) rfl (fun hc129 => absurd (by decide) hc129) (fun hc129 => ?_)
      refine own_iconst (pc' := 133) X276 hx (0 : Int32) (hb hby d1_132) rfl rfl ?_
      refine own_istore (pc' := 135) (l' := #[.val (.ref a1), .val (.int st), .val (.int w), .val (.int p'), .val (.int n'), .val (.int v2), .val (.long v253), .second, .val (.long vS), .second, .val (.ref b273), .val (.int (0 : Int32)), .val (.int (0 : Int32)), .unset]) X276 hx (hb hby d1_133) rfl rfl rfl ?_
      refine lpI hw hx hby hml hown hZ a1 st w p' n' v2 v253 wn pn nn hW hP hN hw1 hwp hsp hwb (pn - wn) hG hg vS b273 (0 : Int32) 0 (by decide) (by decide) k273 [(.long (0 : Int64)), (.long (0 : Int64)), (.long (0 : Int64)), (.long (0 : Int64)), (.long (0 : Int64))] rfl h273 g_b273 (fun T277 h277 L277 run277 mv277 sl277 X277 e277 N277 K277 V277 hU277 hsl277 => ?_) _ T276 h273 _ 0 0 .unset 0 rfl (Nat.zero_le _) (by decide) X276 e276 N271 (Keep.refl _ _) V273 (own_Up0 _ _ _ _) (Or.inl rfl)
      have z277 : n0 ≤ h277.size := Nat.le_trans z273 K277.1
      have KK277 : Keep h0 h277 [a1] := K273.trans K277 (allS (Or.inr sz_b273) all0)
      have V277 : Arv Z h277 b273 k273 .long 5 [(.long mv277), (.long (0 : Int64)), (.long (0 : Int64)), (.long (0 : Int64)), (.long (0 : Int64))] (.long 0) := V277
      show own_WP _ _ _ _ _ _ _ (T277.setTop (mkF m 190 #[.val (.ref a1), .val (.int st), .val (.int w), .val (.int p'), .val (.int n'), .val (.int v2), .val (.long v253), .second, .val (.long vS), .second, .val (.ref b273), .val (.int (0 : Int32)), .val (.int run277), sl277] []))
      refine own_iinc (pc' := 193) (l' := #[.val (.ref a1), .val (.int st), .val (.int w), .val (.int p'), .val (.int n'), .val (.int v2), .val (.long v253), .second, .val (.long vS), .second, .val (.ref b273), .val (.int (1 : Int32)), .val (.int run277), sl277]) X277 hx (hb hby d1_190) rfl (by decide) rfl rfl ?_
      refine own_goto (pc' := 123) X277 hx (hb hby d1_193) (by decide) rfl ?_
      refine own_iload (pc' := 125) X277 hx (hb hby d1_123) rfl rfl ?_
      refine own_aloadN (pc' := 126) X277 hx (hb hby d1_125) rfl rfl rfl ?_
      have f278 := (f275.keep K277 (ninS ne_a1_b273 nin0))
      refine own_getF (pc' := 129) X277 hx hZ hown (host := "") (Or.inl (own_w hw 15 rfl)) Via.refl e277 f278 (hb hby d1_126) rfl ?_
      intro T279 X279 e279
      refine own_icmp_ge (pt := 196) (pf := 132) X279 hx (hb hby d1_129) rfl (by decide) rfl (fun hc129_1 => absurd (by decide) hc129_1) (fun hc129_1 => ?_)
      refine own_iconst (pc' := 133) X279 hx (0 : Int32) (hb hby d1_132) rfl rfl ?_
      refine own_istore (pc' := 135) (l' := #[.val (.ref a1), .val (.int st), .val (.int w), .val (.int p'), .val (.int n'), .val (.int v2), .val (.long v253), .second, .val (.long vS), .second, .val (.ref b273), .val (.int (1 : Int32)), .val (.int (0 : Int32)), sl277]) X279 hx (hb hby d1_133) rfl rfl rfl ?_
      refine lpI hw hx hby hml hown hZ a1 st w p' n' v2 v253 wn pn nn hW hP hN hw1 hwp hsp hwb (pn - wn) hG hg vS b273 (1 : Int32) 1 (by decide) (by decide) k273 [(.long mv277), (.long (0 : Int64)), (.long (0 : Int64)), (.long (0 : Int64)), (.long (0 : Int64))] rfl h277 g_b273 (fun T280 h280 L280 run280 mv280 sl280 X280 e280 N280 K280 V280 hU280 hsl280 => ?_) _ T279 h277 _ 0 0 sl277 0 rfl (Nat.zero_le _) (by decide) X279 e279 N277 (Keep.refl _ _) V277 (own_Up0 _ _ _ _) hsl277
      have z280 : n0 ≤ h280.size := Nat.le_trans z277 K280.1
      have KK280 : Keep h0 h280 [a1] := KK277.trans K280 (allS (Or.inr sz_b273) all0)
      have V280 : Arv Z h280 b273 k273 .long 5 [(.long mv277), (.long mv280), (.long (0 : Int64)), (.long (0 : Int64)), (.long (0 : Int64))] (.long 0) := V280
      show own_WP _ _ _ _ _ _ _ (T280.setTop (mkF m 190 #[.val (.ref a1), .val (.int st), .val (.int w), .val (.int p'), .val (.int n'), .val (.int v2), .val (.long v253), .second, .val (.long vS), .second, .val (.ref b273), .val (.int (1 : Int32)), .val (.int run280), sl280] []))
      refine own_iinc (pc' := 193) (l' := #[.val (.ref a1), .val (.int st), .val (.int w), .val (.int p'), .val (.int n'), .val (.int v2), .val (.long v253), .second, .val (.long vS), .second, .val (.ref b273), .val (.int (2 : Int32)), .val (.int run280), sl280]) X280 hx (hb hby d1_190) rfl (by decide) rfl rfl ?_
      refine own_goto (pc' := 123) X280 hx (hb hby d1_193) (by decide) rfl ?_
      refine own_iload (pc' := 125) X280 hx (hb hby d1_123) rfl rfl ?_
      refine own_aloadN (pc' := 126) X280 hx (hb hby d1_125) rfl rfl rfl ?_
      have f281 := (f278.keep K280 (ninS ne_a1_b273 nin0))
      refine own_getF (pc' := 129) X280 hx hZ hown (host := "") (Or.inl (own_w hw 15 rfl)) Via.refl e280 f281 (hb hby d1_126) rfl ?_
      intro T282 X282 e282
      refine own_icmp_ge (pt := 196) (pf := 132) X282 hx (hb hby d1_129) rfl (by decide) rfl (fun hc129_2 => ?_) (fun hc129_2 => absurd hc129_2 (by decide))
      refine own_aloadN (pc' := 197) X282 hx (hb hby d1_196) rfl rfl rfl ?_
      refine own_aload (pc' := 199) X282 hx (hb hby d1_197) rfl rfl rfl ?_
      refine own_iconst (pc' := 200) X282 hx (0 : Int32) (hb hby d1_199) rfl rfl ?_
      refine own_laload (pc' := 201) (v := (.long mv277)) X282 hx hZ e282 V280 ⟨by decide, by decide⟩ rfl (hb hby d1_200) rfl ?_
      have f283 := (((((((((F_moving0.other W252 (Or.inr (slot_ne (Or.inr (own_w hw 30 rfl)) (Or.inr (own_w hw 16 rfl)) (by decide) (t := .long) (t' := .int) (by decide +kernel) (by decide +kernel)))).other W256 (Or.inr (slot_ne (Or.inr (own_w hw 30 rfl)) (Or.inr (own_w hw 19 rfl)) (by decide) (t := .long) (t' := .int) (by decide +kernel) (by decide +kernel)))).other W259 (Or.inr (slot_ne (Or.inr (own_w hw 30 rfl)) (Or.inr (own_w hw 21 rfl)) (by decide) (t := .long) (t' := .long) (by decide +kernel) (by decide +kernel)))).other W262 (Or.inr (slot_ne (Or.inr (own_w hw 30 rfl)) (Or.inr (own_w hw 23 rfl)) (by decide) (t := .long) (t' := .long) (by decide +kernel) (by decide +kernel)))).other W266 (Or.inr (slot_ne (Or.inr (own_w hw 30 rfl)) (Or.inr (own_w hw 25 rfl)) (by decide) (t := .long) (t' := .int) (by decide +kernel) (by decide +kernel)))).other W271 (Or.inr (slot_ne (Or.inr (own_w hw 30 rfl)) (Or.inr (own_w hw 27 rfl)) (by decide) (t := .long) (t' := .long) (by decide +kernel) (by decide +kernel)))).ext E273).keep K277 (ninS ne_a1_b273 nin0)).keep K280 (ninS ne_a1_b273 nin0))
      have f284 := (((f274.ext E273).keep K277).keep K280)
      refine own_putF (pc' := 204) X282 hx hZ hown (host := "") (Or.inl (own_w hw 29 rfl)) Via.refl e282 f283 f284 (Or.inr ⟨(own_w hw 30 rfl), rfl, hnm⟩) (own_w hw 2 rfl) (ty := .long) (by decide) rfl rfl (hb hby d1_201) rfl ?_
      intro T285 h285 X285 e285 W285
      have z285 : n0 ≤ h285.size := Nat.le_trans z280 (Keep.of_wr W285).1
      have Fw285 := f283.same W285
      have N285 := Fr.snoc X285 N280 g_a1
      have K285 : Keep h0 h285 [a1] := KK280.wr W285 (Or.inl (List.mem_of_getElem? (i := 0) rfl))
      refine own_aloadN (pc' := 205) X285 hx (hb hby d1_204) rfl rfl rfl ?_
      refine own_aload (pc' := 207) X285 hx (hb hby d1_205) rfl rfl rfl ?_
      refine own_iconst (pc' := 208) X285 hx (1 : Int32) (hb hby d1_207) rfl rfl ?_
      have f286 := (V280.other W285 ne_b273_a1)
      refine own_laload (pc' := 209) (v := (.long mv280)) X285 hx hZ e285 f286 ⟨by decide, by decide⟩ rfl (hb hby d1_208) rfl ?_
      have f287 := ((((((((((F_moving1.other W252 (Or.inr (slot_ne (Or.inr (own_w hw 32 rfl)) (Or.inr (own_w hw 16 rfl)) (by decide) (t := .long) (t' := .int) (by decide +kernel) (by decide +kernel)))).other W256 (Or.inr (slot_ne (Or.inr (own_w hw 32 rfl)) (Or.inr (own_w hw 19 rfl)) (by decide) (t := .long) (t' := .int) (by decide +kernel) (by decide +kernel)))).other W259 (Or.inr (slot_ne (Or.inr (own_w hw 32 rfl)) (Or.inr (own_w hw 21 rfl)) (by decide) (t := .long) (t' := .long) (by decide +kernel) (by decide +kernel)))).other W262 (Or.inr (slot_ne (Or.inr (own_w hw 32 rfl)) (Or.inr (own_w hw 23 rfl)) (by decide) (t := .long) (t' := .long) (by decide +kernel) (by decide +kernel)))).other W266 (Or.inr (slot_ne (Or.inr (own_w hw 32 rfl)) (Or.inr (own_w hw 25 rfl)) (by decide) (t := .long) (t' := .int) (by decide +kernel) (by decide +kernel)))).other W271 (Or.inr (slot_ne (Or.inr (own_w hw 32 rfl)) (Or.inr (own_w hw 27 rfl)) (by decide) (t := .long) (t' := .long) (by decide +kernel) (by decide +kernel)))).ext E273).keep K277 (ninS ne_a1_b273 nin0)).keep K280 (ninS ne_a1_b273 nin0)).other W285 (Or.inr (slot_ne (Or.inr (own_w hw 32 rfl)) (Or.inr (own_w hw 30 rfl)) (by decide) (t := .long) (t' := .long) (by decide +kernel) (by decide +kernel))))
      have f288 := (f284.wr W285)
      refine own_putF (pc' := 212) X285 hx hZ hown (host := "") (Or.inl (own_w hw 31 rfl)) Via.refl e285 f287 f288 (Or.inr ⟨(own_w hw 32 rfl), rfl, hnm⟩) (own_w hw 2 rfl) (ty := .long) (by decide) rfl rfl (hb hby d1_209) rfl ?_
      intro T289 h289 X289 e289 W289
      have z289 : n0 ≤ h289.size := Nat.le_trans z285 (Keep.of_wr W289).1
      have Fw289 := f287.same W289
      have N289 := Fr.snoc X289 N285 g_a1
      have K289 : Keep h0 h289 [a1] := K285.wr W289 (Or.inl (List.mem_of_getElem? (i := 0) rfl))
      refine own_aloadN (pc' := 213) X289 hx (hb hby d1_212) rfl rfl rfl ?_
      refine own_aload (pc' := 215) X289 hx (hb hby d1_213) rfl rfl rfl ?_
      refine own_iconst (pc' := 216) X289 hx (2 : Int32) (hb hby d1_215) rfl rfl ?_
      have f290 := (f286.other W289 ne_b273_a1)
      refine own_laload (pc' := 217) (v := (.long (0 : Int64))) X289 hx hZ e289 f290 ⟨by decide, by decide⟩ rfl (hb hby d1_216) rfl ?_
      have f291 := (((((((((((F_moving2.other W252 (Or.inr (slot_ne (Or.inr (own_w hw 34 rfl)) (Or.inr (own_w hw 16 rfl)) (by decide) (t := .long) (t' := .int) (by decide +kernel) (by decide +kernel)))).other W256 (Or.inr (slot_ne (Or.inr (own_w hw 34 rfl)) (Or.inr (own_w hw 19 rfl)) (by decide) (t := .long) (t' := .int) (by decide +kernel) (by decide +kernel)))).other W259 (Or.inr (slot_ne (Or.inr (own_w hw 34 rfl)) (Or.inr (own_w hw 21 rfl)) (by decide) (t := .long) (t' := .long) (by decide +kernel) (by decide +kernel)))).other W262 (Or.inr (slot_ne (Or.inr (own_w hw 34 rfl)) (Or.inr (own_w hw 23 rfl)) (by decide) (t := .long) (t' := .long) (by decide +kernel) (by decide +kernel)))).other W266 (Or.inr (slot_ne (Or.inr (own_w hw 34 rfl)) (Or.inr (own_w hw 25 rfl)) (by decide) (t := .long) (t' := .int) (by decide +kernel) (by decide +kernel)))).other W271 (Or.inr (slot_ne (Or.inr (own_w hw 34 rfl)) (Or.inr (own_w hw 27 rfl)) (by decide) (t := .long) (t' := .long) (by decide +kernel) (by decide +kernel)))).ext E273).keep K277 (ninS ne_a1_b273 nin0)).keep K280 (ninS ne_a1_b273 nin0)).other W285 (Or.inr (slot_ne (Or.inr (own_w hw 34 rfl)) (Or.inr (own_w hw 30 rfl)) (by decide) (t := .long) (t' := .long) (by decide +kernel) (by decide +kernel)))).other W289 (Or.inr (slot_ne (Or.inr (own_w hw 34 rfl)) (Or.inr (own_w hw 32 rfl)) (by decide) (t := .long) (t' := .long) (by decide +kernel) (by decide +kernel))))
      have f292 := (f288.wr W289)
      refine own_putF (pc' := 220) X289 hx hZ hown (host := "") (Or.inl (own_w hw 33 rfl)) Via.refl e289 f291 f292 (Or.inr ⟨(own_w hw 34 rfl), rfl, hnm⟩) (own_w hw 2 rfl) (ty := .long) (by decide) rfl rfl (hb hby d1_217) rfl ?_
      intro T293 h293 X293 e293 W293
      have z293 : n0 ≤ h293.size := Nat.le_trans z289 (Keep.of_wr W293).1
      have Fw293 := f291.same W293
      have N293 := Fr.snoc X293 N289 g_a1
      have K293 : Keep h0 h293 [a1] := K289.wr W293 (Or.inl (List.mem_of_getElem? (i := 0) rfl))
      refine own_aloadN (pc' := 221) X293 hx (hb hby d1_220) rfl rfl rfl ?_
      refine own_aload (pc' := 223) X293 hx (hb hby d1_221) rfl rfl rfl ?_
      refine own_iconst (pc' := 224) X293 hx (3 : Int32) (hb hby d1_223) rfl rfl ?_
      have f294 := (f290.other W293 ne_b273_a1)
      refine own_laload (pc' := 225) (v := (.long (0 : Int64))) X293 hx hZ e293 f294 ⟨by decide, by decide⟩ rfl (hb hby d1_224) rfl ?_
      have f295 := ((((((((((((F_moving3.other W252 (Or.inr (slot_ne (Or.inr (own_w hw 36 rfl)) (Or.inr (own_w hw 16 rfl)) (by decide) (t := .long) (t' := .int) (by decide +kernel) (by decide +kernel)))).other W256 (Or.inr (slot_ne (Or.inr (own_w hw 36 rfl)) (Or.inr (own_w hw 19 rfl)) (by decide) (t := .long) (t' := .int) (by decide +kernel) (by decide +kernel)))).other W259 (Or.inr (slot_ne (Or.inr (own_w hw 36 rfl)) (Or.inr (own_w hw 21 rfl)) (by decide) (t := .long) (t' := .long) (by decide +kernel) (by decide +kernel)))).other W262 (Or.inr (slot_ne (Or.inr (own_w hw 36 rfl)) (Or.inr (own_w hw 23 rfl)) (by decide) (t := .long) (t' := .long) (by decide +kernel) (by decide +kernel)))).other W266 (Or.inr (slot_ne (Or.inr (own_w hw 36 rfl)) (Or.inr (own_w hw 25 rfl)) (by decide) (t := .long) (t' := .int) (by decide +kernel) (by decide +kernel)))).other W271 (Or.inr (slot_ne (Or.inr (own_w hw 36 rfl)) (Or.inr (own_w hw 27 rfl)) (by decide) (t := .long) (t' := .long) (by decide +kernel) (by decide +kernel)))).ext E273).keep K277 (ninS ne_a1_b273 nin0)).keep K280 (ninS ne_a1_b273 nin0)).other W285 (Or.inr (slot_ne (Or.inr (own_w hw 36 rfl)) (Or.inr (own_w hw 30 rfl)) (by decide) (t := .long) (t' := .long) (by decide +kernel) (by decide +kernel)))).other W289 (Or.inr (slot_ne (Or.inr (own_w hw 36 rfl)) (Or.inr (own_w hw 32 rfl)) (by decide) (t := .long) (t' := .long) (by decide +kernel) (by decide +kernel)))).other W293 (Or.inr (slot_ne (Or.inr (own_w hw 36 rfl)) (Or.inr (own_w hw 34 rfl)) (by decide) (t := .long) (t' := .long) (by decide +kernel) (by decide +kernel))))
      have f296 := (f292.wr W293)
      refine own_putF (pc' := 228) X293 hx hZ hown (host := "") (Or.inl (own_w hw 35 rfl)) Via.refl e293 f295 f296 (Or.inr ⟨(own_w hw 36 rfl), rfl, hnm⟩) (own_w hw 2 rfl) (ty := .long) (by decide) rfl rfl (hb hby d1_225) rfl ?_
      intro T297 h297 X297 e297 W297
      have z297 : n0 ≤ h297.size := Nat.le_trans z293 (Keep.of_wr W297).1
      have Fw297 := f295.same W297
      have N297 := Fr.snoc X297 N293 g_a1
      have K297 : Keep h0 h297 [a1] := K293.wr W297 (Or.inl (List.mem_of_getElem? (i := 0) rfl))
      refine own_aloadN (pc' := 229) X297 hx (hb hby d1_228) rfl rfl rfl ?_
      refine own_aload (pc' := 231) X297 hx (hb hby d1_229) rfl rfl rfl ?_
      refine own_iconst (pc' := 232) X297 hx (4 : Int32) (hb hby d1_231) rfl rfl ?_
      have f298 := (f294.other W297 ne_b273_a1)
      refine own_laload (pc' := 233) (v := (.long (0 : Int64))) X297 hx hZ e297 f298 ⟨by decide, by decide⟩ rfl (hb hby d1_232) rfl ?_
      have f299 := (((((((((((((F_moving4.other W252 (Or.inr (slot_ne (Or.inr (own_w hw 38 rfl)) (Or.inr (own_w hw 16 rfl)) (by decide) (t := .long) (t' := .int) (by decide +kernel) (by decide +kernel)))).other W256 (Or.inr (slot_ne (Or.inr (own_w hw 38 rfl)) (Or.inr (own_w hw 19 rfl)) (by decide) (t := .long) (t' := .int) (by decide +kernel) (by decide +kernel)))).other W259 (Or.inr (slot_ne (Or.inr (own_w hw 38 rfl)) (Or.inr (own_w hw 21 rfl)) (by decide) (t := .long) (t' := .long) (by decide +kernel) (by decide +kernel)))).other W262 (Or.inr (slot_ne (Or.inr (own_w hw 38 rfl)) (Or.inr (own_w hw 23 rfl)) (by decide) (t := .long) (t' := .long) (by decide +kernel) (by decide +kernel)))).other W266 (Or.inr (slot_ne (Or.inr (own_w hw 38 rfl)) (Or.inr (own_w hw 25 rfl)) (by decide) (t := .long) (t' := .int) (by decide +kernel) (by decide +kernel)))).other W271 (Or.inr (slot_ne (Or.inr (own_w hw 38 rfl)) (Or.inr (own_w hw 27 rfl)) (by decide) (t := .long) (t' := .long) (by decide +kernel) (by decide +kernel)))).ext E273).keep K277 (ninS ne_a1_b273 nin0)).keep K280 (ninS ne_a1_b273 nin0)).other W285 (Or.inr (slot_ne (Or.inr (own_w hw 38 rfl)) (Or.inr (own_w hw 30 rfl)) (by decide) (t := .long) (t' := .long) (by decide +kernel) (by decide +kernel)))).other W289 (Or.inr (slot_ne (Or.inr (own_w hw 38 rfl)) (Or.inr (own_w hw 32 rfl)) (by decide) (t := .long) (t' := .long) (by decide +kernel) (by decide +kernel)))).other W293 (Or.inr (slot_ne (Or.inr (own_w hw 38 rfl)) (Or.inr (own_w hw 34 rfl)) (by decide) (t := .long) (t' := .long) (by decide +kernel) (by decide +kernel)))).other W297 (Or.inr (slot_ne (Or.inr (own_w hw 38 rfl)) (Or.inr (own_w hw 36 rfl)) (by decide) (t := .long) (t' := .long) (by decide +kernel) (by decide +kernel))))
      have f300 := (f296.wr W297)
      refine own_putF (pc' := 236) X297 hx hZ hown (host := "") (Or.inl (own_w hw 37 rfl)) Via.refl e297 f299 f300 (Or.inr ⟨(own_w hw 38 rfl), rfl, hnm⟩) (own_w hw 2 rfl) (ty := .long) (by decide) rfl rfl (hb hby d1_233) rfl ?_
      intro T301 h301 X301 e301 W301
      have z301 : n0 ≤ h301.size := Nat.le_trans z297 (Keep.of_wr W301).1
      have Fw301 := f299.same W301
      have N301 := Fr.snoc X301 N297 g_a1
      have K301 : Keep h0 h301 [a1] := K297.wr W301 (Or.inl (List.mem_of_getElem? (i := 0) rfl))
      refine own_aloadN (pc' := 237) X301 hx (hb hby d1_236) rfl rfl rfl ?_
      refine own_iload (pc' := 239) X301 hx (hb hby d1_237) rfl rfl ?_
      have f302 := ((((((((((((((F_distance0.other W252 (Or.inr (slot_ne (Or.inr (own_w hw 40 rfl)) (Or.inr (own_w hw 16 rfl)) (by decide) (t := .int) (t' := .int) (by decide +kernel) (by decide +kernel)))).other W256 (Or.inr (slot_ne (Or.inr (own_w hw 40 rfl)) (Or.inr (own_w hw 19 rfl)) (by decide) (t := .int) (t' := .int) (by decide +kernel) (by decide +kernel)))).other W259 (Or.inr (slot_ne (Or.inr (own_w hw 40 rfl)) (Or.inr (own_w hw 21 rfl)) (by decide) (t := .int) (t' := .long) (by decide +kernel) (by decide +kernel)))).other W262 (Or.inr (slot_ne (Or.inr (own_w hw 40 rfl)) (Or.inr (own_w hw 23 rfl)) (by decide) (t := .int) (t' := .long) (by decide +kernel) (by decide +kernel)))).other W266 (Or.inr (slot_ne (Or.inr (own_w hw 40 rfl)) (Or.inr (own_w hw 25 rfl)) (by decide) (t := .int) (t' := .int) (by decide +kernel) (by decide +kernel)))).other W271 (Or.inr (slot_ne (Or.inr (own_w hw 40 rfl)) (Or.inr (own_w hw 27 rfl)) (by decide) (t := .int) (t' := .long) (by decide +kernel) (by decide +kernel)))).ext E273).keep K277 (ninS ne_a1_b273 nin0)).keep K280 (ninS ne_a1_b273 nin0)).other W285 (Or.inr (slot_ne (Or.inr (own_w hw 40 rfl)) (Or.inr (own_w hw 30 rfl)) (by decide) (t := .int) (t' := .long) (by decide +kernel) (by decide +kernel)))).other W289 (Or.inr (slot_ne (Or.inr (own_w hw 40 rfl)) (Or.inr (own_w hw 32 rfl)) (by decide) (t := .int) (t' := .long) (by decide +kernel) (by decide +kernel)))).other W293 (Or.inr (slot_ne (Or.inr (own_w hw 40 rfl)) (Or.inr (own_w hw 34 rfl)) (by decide) (t := .int) (t' := .long) (by decide +kernel) (by decide +kernel)))).other W297 (Or.inr (slot_ne (Or.inr (own_w hw 40 rfl)) (Or.inr (own_w hw 36 rfl)) (by decide) (t := .int) (t' := .long) (by decide +kernel) (by decide +kernel)))).other W301 (Or.inr (slot_ne (Or.inr (own_w hw 40 rfl)) (Or.inr (own_w hw 38 rfl)) (by decide) (t := .int) (t' := .long) (by decide +kernel) (by decide +kernel))))
      have f303 := (f300.wr W301)
      refine own_putF (pc' := 242) X301 hx hZ hown (host := "") (Or.inl (own_w hw 39 rfl)) Via.refl e301 f302 f303 (Or.inr ⟨(own_w hw 40 rfl), rfl, hnm⟩) (own_w hw 2 rfl) (ty := .int) (by decide) rfl rfl (hb hby d1_239) rfl ?_
      intro T304 h304 X304 e304 W304
      have z304 : n0 ≤ h304.size := Nat.le_trans z301 (Keep.of_wr W304).1
      have Fw304 := f302.same W304
      have N304 := Fr.snoc X304 N301 g_a1
      have K304 : Keep h0 h304 [a1] := K301.wr W304 (Or.inl (List.mem_of_getElem? (i := 0) rfl))
      refine own_aloadN (pc' := 243) X304 hx (hb hby d1_242) rfl rfl rfl ?_
      refine own_iload (pc' := 245) X304 hx (hb hby d1_243) rfl rfl ?_
      refine own_iconst (pc' := 246) X304 hx (1 : Int32) (hb hby d1_245) rfl rfl ?_
      refine own_ishl (pc' := 247) X304 hx (hb hby d1_246) rfl ?_
      have f305 := (((((((((((((((F_distance1.other W252 (Or.inr (slot_ne (Or.inr (own_w hw 42 rfl)) (Or.inr (own_w hw 16 rfl)) (by decide) (t := .int) (t' := .int) (by decide +kernel) (by decide +kernel)))).other W256 (Or.inr (slot_ne (Or.inr (own_w hw 42 rfl)) (Or.inr (own_w hw 19 rfl)) (by decide) (t := .int) (t' := .int) (by decide +kernel) (by decide +kernel)))).other W259 (Or.inr (slot_ne (Or.inr (own_w hw 42 rfl)) (Or.inr (own_w hw 21 rfl)) (by decide) (t := .int) (t' := .long) (by decide +kernel) (by decide +kernel)))).other W262 (Or.inr (slot_ne (Or.inr (own_w hw 42 rfl)) (Or.inr (own_w hw 23 rfl)) (by decide) (t := .int) (t' := .long) (by decide +kernel) (by decide +kernel)))).other W266 (Or.inr (slot_ne (Or.inr (own_w hw 42 rfl)) (Or.inr (own_w hw 25 rfl)) (by decide) (t := .int) (t' := .int) (by decide +kernel) (by decide +kernel)))).other W271 (Or.inr (slot_ne (Or.inr (own_w hw 42 rfl)) (Or.inr (own_w hw 27 rfl)) (by decide) (t := .int) (t' := .long) (by decide +kernel) (by decide +kernel)))).ext E273).keep K277 (ninS ne_a1_b273 nin0)).keep K280 (ninS ne_a1_b273 nin0)).other W285 (Or.inr (slot_ne (Or.inr (own_w hw 42 rfl)) (Or.inr (own_w hw 30 rfl)) (by decide) (t := .int) (t' := .long) (by decide +kernel) (by decide +kernel)))).other W289 (Or.inr (slot_ne (Or.inr (own_w hw 42 rfl)) (Or.inr (own_w hw 32 rfl)) (by decide) (t := .int) (t' := .long) (by decide +kernel) (by decide +kernel)))).other W293 (Or.inr (slot_ne (Or.inr (own_w hw 42 rfl)) (Or.inr (own_w hw 34 rfl)) (by decide) (t := .int) (t' := .long) (by decide +kernel) (by decide +kernel)))).other W297 (Or.inr (slot_ne (Or.inr (own_w hw 42 rfl)) (Or.inr (own_w hw 36 rfl)) (by decide) (t := .int) (t' := .long) (by decide +kernel) (by decide +kernel)))).other W301 (Or.inr (slot_ne (Or.inr (own_w hw 42 rfl)) (Or.inr (own_w hw 38 rfl)) (by decide) (t := .int) (t' := .long) (by decide +kernel) (by decide +kernel)))).other W304 (Or.inr (slot_ne (Or.inr (own_w hw 42 rfl)) (Or.inr (own_w hw 40 rfl)) (by decide) (t := .int) (t' := .int) (by decide +kernel) (by decide +kernel))))
      have f306 := (f303.wr W304)
      obtain ⟨v308, hv308⟩ : ∃ z : Int32, z = (v2 <<< ((1 : Int32) &&& 31)) := ⟨_, rfl⟩
      rw [← hv308]
      refine own_putF (pc' := 250) X304 hx hZ hown (host := "") (Or.inl (own_w hw 41 rfl)) Via.refl e304 f305 f306 (Or.inr ⟨(own_w hw 42 rfl), rfl, hnm⟩) (own_w hw 2 rfl) (ty := .int) (by decide) rfl rfl (hb hby d1_247) rfl ?_
      intro T307 h307 X307 e307 W307
      have z307 : n0 ≤ h307.size := Nat.le_trans z304 (Keep.of_wr W307).1
      have Fw307 := f305.same W307
      have N307 := Fr.snoc X307 N304 g_a1
      have K307 : Keep h0 h307 [a1] := K304.wr W307 (Or.inl (List.mem_of_getElem? (i := 0) rfl))
      refine own_aloadN (pc' := 251) X307 hx (hb hby d1_250) rfl rfl rfl ?_
      refine own_iload (pc' := 253) X307 hx (hb hby d1_251) rfl rfl ?_
      refine own_iconst (pc' := 254) X307 hx (2 : Int32) (hb hby d1_253) rfl rfl ?_
      refine own_ishl (pc' := 255) X307 hx (hb hby d1_254) rfl ?_
      have f309 := ((((((((((((((((F_distance2.other W252 (Or.inr (slot_ne (Or.inr (own_w hw 44 rfl)) (Or.inr (own_w hw 16 rfl)) (by decide) (t := .int) (t' := .int) (by decide +kernel) (by decide +kernel)))).other W256 (Or.inr (slot_ne (Or.inr (own_w hw 44 rfl)) (Or.inr (own_w hw 19 rfl)) (by decide) (t := .int) (t' := .int) (by decide +kernel) (by decide +kernel)))).other W259 (Or.inr (slot_ne (Or.inr (own_w hw 44 rfl)) (Or.inr (own_w hw 21 rfl)) (by decide) (t := .int) (t' := .long) (by decide +kernel) (by decide +kernel)))).other W262 (Or.inr (slot_ne (Or.inr (own_w hw 44 rfl)) (Or.inr (own_w hw 23 rfl)) (by decide) (t := .int) (t' := .long) (by decide +kernel) (by decide +kernel)))).other W266 (Or.inr (slot_ne (Or.inr (own_w hw 44 rfl)) (Or.inr (own_w hw 25 rfl)) (by decide) (t := .int) (t' := .int) (by decide +kernel) (by decide +kernel)))).other W271 (Or.inr (slot_ne (Or.inr (own_w hw 44 rfl)) (Or.inr (own_w hw 27 rfl)) (by decide) (t := .int) (t' := .long) (by decide +kernel) (by decide +kernel)))).ext E273).keep K277 (ninS ne_a1_b273 nin0)).keep K280 (ninS ne_a1_b273 nin0)).other W285 (Or.inr (slot_ne (Or.inr (own_w hw 44 rfl)) (Or.inr (own_w hw 30 rfl)) (by decide) (t := .int) (t' := .long) (by decide +kernel) (by decide +kernel)))).other W289 (Or.inr (slot_ne (Or.inr (own_w hw 44 rfl)) (Or.inr (own_w hw 32 rfl)) (by decide) (t := .int) (t' := .long) (by decide +kernel) (by decide +kernel)))).other W293 (Or.inr (slot_ne (Or.inr (own_w hw 44 rfl)) (Or.inr (own_w hw 34 rfl)) (by decide) (t := .int) (t' := .long) (by decide +kernel) (by decide +kernel)))).other W297 (Or.inr (slot_ne (Or.inr (own_w hw 44 rfl)) (Or.inr (own_w hw 36 rfl)) (by decide) (t := .int) (t' := .long) (by decide +kernel) (by decide +kernel)))).other W301 (Or.inr (slot_ne (Or.inr (own_w hw 44 rfl)) (Or.inr (own_w hw 38 rfl)) (by decide) (t := .int) (t' := .long) (by decide +kernel) (by decide +kernel)))).other W304 (Or.inr (slot_ne (Or.inr (own_w hw 44 rfl)) (Or.inr (own_w hw 40 rfl)) (by decide) (t := .int) (t' := .int) (by decide +kernel) (by decide +kernel)))).other W307 (Or.inr (slot_ne (Or.inr (own_w hw 44 rfl)) (Or.inr (own_w hw 42 rfl)) (by decide) (t := .int) (t' := .int) (by decide +kernel) (by decide +kernel))))
      have f310 := (f306.wr W307)
      obtain ⟨v312, hv312⟩ : ∃ z : Int32, z = (v2 <<< ((2 : Int32) &&& 31)) := ⟨_, rfl⟩
      rw [← hv312]
      refine own_putF (pc' := 258) X307 hx hZ hown (host := "") (Or.inl (own_w hw 43 rfl)) Via.refl e307 f309 f310 (Or.inr ⟨(own_w hw 44 rfl), rfl, hnm⟩) (own_w hw 2 rfl) (ty := .int) (by decide) rfl rfl (hb hby d1_255) rfl ?_
      intro T311 h311 X311 e311 W311
      have z311 : n0 ≤ h311.size := Nat.le_trans z307 (Keep.of_wr W311).1
      have Fw311 := f309.same W311
      have N311 := Fr.snoc X311 N307 g_a1
      have K311 : Keep h0 h311 [a1] := K307.wr W311 (Or.inl (List.mem_of_getElem? (i := 0) rfl))
      refine own_aloadN (pc' := 259) X311 hx (hb hby d1_258) rfl rfl rfl ?_
      refine own_iload (pc' := 261) X311 hx (hb hby d1_259) rfl rfl ?_
      refine own_iconst (pc' := 262) X311 hx (3 : Int32) (hb hby d1_261) rfl rfl ?_
      refine own_ishl (pc' := 263) X311 hx (hb hby d1_262) rfl ?_
      have f313 := (((((((((((((((((F_distance3.other W252 (Or.inr (slot_ne (Or.inr (own_w hw 46 rfl)) (Or.inr (own_w hw 16 rfl)) (by decide) (t := .int) (t' := .int) (by decide +kernel) (by decide +kernel)))).other W256 (Or.inr (slot_ne (Or.inr (own_w hw 46 rfl)) (Or.inr (own_w hw 19 rfl)) (by decide) (t := .int) (t' := .int) (by decide +kernel) (by decide +kernel)))).other W259 (Or.inr (slot_ne (Or.inr (own_w hw 46 rfl)) (Or.inr (own_w hw 21 rfl)) (by decide) (t := .int) (t' := .long) (by decide +kernel) (by decide +kernel)))).other W262 (Or.inr (slot_ne (Or.inr (own_w hw 46 rfl)) (Or.inr (own_w hw 23 rfl)) (by decide) (t := .int) (t' := .long) (by decide +kernel) (by decide +kernel)))).other W266 (Or.inr (slot_ne (Or.inr (own_w hw 46 rfl)) (Or.inr (own_w hw 25 rfl)) (by decide) (t := .int) (t' := .int) (by decide +kernel) (by decide +kernel)))).other W271 (Or.inr (slot_ne (Or.inr (own_w hw 46 rfl)) (Or.inr (own_w hw 27 rfl)) (by decide) (t := .int) (t' := .long) (by decide +kernel) (by decide +kernel)))).ext E273).keep K277 (ninS ne_a1_b273 nin0)).keep K280 (ninS ne_a1_b273 nin0)).other W285 (Or.inr (slot_ne (Or.inr (own_w hw 46 rfl)) (Or.inr (own_w hw 30 rfl)) (by decide) (t := .int) (t' := .long) (by decide +kernel) (by decide +kernel)))).other W289 (Or.inr (slot_ne (Or.inr (own_w hw 46 rfl)) (Or.inr (own_w hw 32 rfl)) (by decide) (t := .int) (t' := .long) (by decide +kernel) (by decide +kernel)))).other W293 (Or.inr (slot_ne (Or.inr (own_w hw 46 rfl)) (Or.inr (own_w hw 34 rfl)) (by decide) (t := .int) (t' := .long) (by decide +kernel) (by decide +kernel)))).other W297 (Or.inr (slot_ne (Or.inr (own_w hw 46 rfl)) (Or.inr (own_w hw 36 rfl)) (by decide) (t := .int) (t' := .long) (by decide +kernel) (by decide +kernel)))).other W301 (Or.inr (slot_ne (Or.inr (own_w hw 46 rfl)) (Or.inr (own_w hw 38 rfl)) (by decide) (t := .int) (t' := .long) (by decide +kernel) (by decide +kernel)))).other W304 (Or.inr (slot_ne (Or.inr (own_w hw 46 rfl)) (Or.inr (own_w hw 40 rfl)) (by decide) (t := .int) (t' := .int) (by decide +kernel) (by decide +kernel)))).other W307 (Or.inr (slot_ne (Or.inr (own_w hw 46 rfl)) (Or.inr (own_w hw 42 rfl)) (by decide) (t := .int) (t' := .int) (by decide +kernel) (by decide +kernel)))).other W311 (Or.inr (slot_ne (Or.inr (own_w hw 46 rfl)) (Or.inr (own_w hw 44 rfl)) (by decide) (t := .int) (t' := .int) (by decide +kernel) (by decide +kernel))))
      have f314 := (f310.wr W311)
      obtain ⟨v316, hv316⟩ : ∃ z : Int32, z = (v2 <<< ((3 : Int32) &&& 31)) := ⟨_, rfl⟩
      rw [← hv316]
      refine own_putF (pc' := 266) X311 hx hZ hown (host := "") (Or.inl (own_w hw 45 rfl)) Via.refl e311 f313 f314 (Or.inr ⟨(own_w hw 46 rfl), rfl, hnm⟩) (own_w hw 2 rfl) (ty := .int) (by decide) rfl rfl (hb hby d1_263) rfl ?_
      intro T315 h315 X315 e315 W315
      have z315 : n0 ≤ h315.size := Nat.le_trans z311 (Keep.of_wr W315).1
      have Fw315 := f313.same W315
      have N315 := Fr.snoc X315 N311 g_a1
      have K315 : Keep h0 h315 [a1] := K311.wr W315 (Or.inl (List.mem_of_getElem? (i := 0) rfl))
      refine own_aloadN (pc' := 267) X315 hx (hb hby d1_266) rfl rfl rfl ?_
      refine own_iload (pc' := 269) X315 hx (hb hby d1_267) rfl rfl ?_
      refine own_iconst (pc' := 270) X315 hx (4 : Int32) (hb hby d1_269) rfl rfl ?_
      refine own_ishl (pc' := 271) X315 hx (hb hby d1_270) rfl ?_
      have f317 := ((((((((((((((((((F_distance4.other W252 (Or.inr (slot_ne (Or.inr (own_w hw 48 rfl)) (Or.inr (own_w hw 16 rfl)) (by decide) (t := .int) (t' := .int) (by decide +kernel) (by decide +kernel)))).other W256 (Or.inr (slot_ne (Or.inr (own_w hw 48 rfl)) (Or.inr (own_w hw 19 rfl)) (by decide) (t := .int) (t' := .int) (by decide +kernel) (by decide +kernel)))).other W259 (Or.inr (slot_ne (Or.inr (own_w hw 48 rfl)) (Or.inr (own_w hw 21 rfl)) (by decide) (t := .int) (t' := .long) (by decide +kernel) (by decide +kernel)))).other W262 (Or.inr (slot_ne (Or.inr (own_w hw 48 rfl)) (Or.inr (own_w hw 23 rfl)) (by decide) (t := .int) (t' := .long) (by decide +kernel) (by decide +kernel)))).other W266 (Or.inr (slot_ne (Or.inr (own_w hw 48 rfl)) (Or.inr (own_w hw 25 rfl)) (by decide) (t := .int) (t' := .int) (by decide +kernel) (by decide +kernel)))).other W271 (Or.inr (slot_ne (Or.inr (own_w hw 48 rfl)) (Or.inr (own_w hw 27 rfl)) (by decide) (t := .int) (t' := .long) (by decide +kernel) (by decide +kernel)))).ext E273).keep K277 (ninS ne_a1_b273 nin0)).keep K280 (ninS ne_a1_b273 nin0)).other W285 (Or.inr (slot_ne (Or.inr (own_w hw 48 rfl)) (Or.inr (own_w hw 30 rfl)) (by decide) (t := .int) (t' := .long) (by decide +kernel) (by decide +kernel)))).other W289 (Or.inr (slot_ne (Or.inr (own_w hw 48 rfl)) (Or.inr (own_w hw 32 rfl)) (by decide) (t := .int) (t' := .long) (by decide +kernel) (by decide +kernel)))).other W293 (Or.inr (slot_ne (Or.inr (own_w hw 48 rfl)) (Or.inr (own_w hw 34 rfl)) (by decide) (t := .int) (t' := .long) (by decide +kernel) (by decide +kernel)))).other W297 (Or.inr (slot_ne (Or.inr (own_w hw 48 rfl)) (Or.inr (own_w hw 36 rfl)) (by decide) (t := .int) (t' := .long) (by decide +kernel) (by decide +kernel)))).other W301 (Or.inr (slot_ne (Or.inr (own_w hw 48 rfl)) (Or.inr (own_w hw 38 rfl)) (by decide) (t := .int) (t' := .long) (by decide +kernel) (by decide +kernel)))).other W304 (Or.inr (slot_ne (Or.inr (own_w hw 48 rfl)) (Or.inr (own_w hw 40 rfl)) (by decide) (t := .int) (t' := .int) (by decide +kernel) (by decide +kernel)))).other W307 (Or.inr (slot_ne (Or.inr (own_w hw 48 rfl)) (Or.inr (own_w hw 42 rfl)) (by decide) (t := .int) (t' := .int) (by decide +kernel) (by decide +kernel)))).other W311 (Or.inr (slot_ne (Or.inr (own_w hw 48 rfl)) (Or.inr (own_w hw 44 rfl)) (by decide) (t := .int) (t' := .int) (by decide +kernel) (by decide +kernel)))).other W315 (Or.inr (slot_ne (Or.inr (own_w hw 48 rfl)) (Or.inr (own_w hw 46 rfl)) (by decide) (t := .int) (t' := .int) (by decide +kernel) (by decide +kernel))))
      have f318 := (f314.wr W315)
      obtain ⟨v320, hv320⟩ : ∃ z : Int32, z = (v2 <<< ((4 : Int32) &&& 31)) := ⟨_, rfl⟩
      rw [← hv320]
      refine own_putF (pc' := 274) X315 hx hZ hown (host := "") (Or.inl (own_w hw 47 rfl)) Via.refl e315 f317 f318 (Or.inr ⟨(own_w hw 48 rfl), rfl, hnm⟩) (own_w hw 2 rfl) (ty := .int) (by decide) rfl rfl (hb hby d1_271) rfl ?_
      intro T319 h319 X319 e319 W319
      have z319 : n0 ≤ h319.size := Nat.le_trans z315 (Keep.of_wr W319).1
      have Fw319 := f317.same W319
      have N319 := Fr.snoc X319 N315 g_a1
      have K319 : Keep h0 h319 [a1] := K315.wr W319 (Or.inl (List.mem_of_getElem? (i := 0) rfl))
      refine own_aloadN (pc' := 275) X319 hx (hb hby d1_274) rfl rfl rfl ?_
      refine own_aloadN (pc' := 276) X319 hx (hb hby d1_275) rfl rfl rfl ?_
      have f321 := (((((((((Fw285.other W289 (Or.inr (slot_ne (Or.inr (own_w hw 30 rfl)) (Or.inr (own_w hw 32 rfl)) (by decide) (t := .long) (t' := .long) (by decide +kernel) (by decide +kernel)))).other W293 (Or.inr (slot_ne (Or.inr (own_w hw 30 rfl)) (Or.inr (own_w hw 34 rfl)) (by decide) (t := .long) (t' := .long) (by decide +kernel) (by decide +kernel)))).other W297 (Or.inr (slot_ne (Or.inr (own_w hw 30 rfl)) (Or.inr (own_w hw 36 rfl)) (by decide) (t := .long) (t' := .long) (by decide +kernel) (by decide +kernel)))).other W301 (Or.inr (slot_ne (Or.inr (own_w hw 30 rfl)) (Or.inr (own_w hw 38 rfl)) (by decide) (t := .long) (t' := .long) (by decide +kernel) (by decide +kernel)))).other W304 (Or.inr (slot_ne (Or.inr (own_w hw 30 rfl)) (Or.inr (own_w hw 40 rfl)) (by decide) (t := .long) (t' := .int) (by decide +kernel) (by decide +kernel)))).other W307 (Or.inr (slot_ne (Or.inr (own_w hw 30 rfl)) (Or.inr (own_w hw 42 rfl)) (by decide) (t := .long) (t' := .int) (by decide +kernel) (by decide +kernel)))).other W311 (Or.inr (slot_ne (Or.inr (own_w hw 30 rfl)) (Or.inr (own_w hw 44 rfl)) (by decide) (t := .long) (t' := .int) (by decide +kernel) (by decide +kernel)))).other W315 (Or.inr (slot_ne (Or.inr (own_w hw 30 rfl)) (Or.inr (own_w hw 46 rfl)) (by decide) (t := .long) (t' := .int) (by decide +kernel) (by decide +kernel)))).other W319 (Or.inr (slot_ne (Or.inr (own_w hw 30 rfl)) (Or.inr (own_w hw 48 rfl)) (by decide) (t := .long) (t' := .int) (by decide +kernel) (by decide +kernel))))
      refine own_getF (pc' := 279) X319 hx hZ hown (host := "") (Or.inl (own_w hw 29 rfl)) Via.refl e319 f321 (hb hby d1_276) rfl ?_
      intro T322 X322 e322
      refine own_aloadN (pc' := 280) X322 hx (hb hby d1_279) rfl rfl rfl ?_
      have f323 := ((((Fw304.other W307 (Or.inr (slot_ne (Or.inr (own_w hw 40 rfl)) (Or.inr (own_w hw 42 rfl)) (by decide) (t := .int) (t' := .int) (by decide +kernel) (by decide +kernel)))).other W311 (Or.inr (slot_ne (Or.inr (own_w hw 40 rfl)) (Or.inr (own_w hw 44 rfl)) (by decide) (t := .int) (t' := .int) (by decide +kernel) (by decide +kernel)))).other W315 (Or.inr (slot_ne (Or.inr (own_w hw 40 rfl)) (Or.inr (own_w hw 46 rfl)) (by decide) (t := .int) (t' := .int) (by decide +kernel) (by decide +kernel)))).other W319 (Or.inr (slot_ne (Or.inr (own_w hw 40 rfl)) (Or.inr (own_w hw 48 rfl)) (by decide) (t := .int) (t' := .int) (by decide +kernel) (by decide +kernel))))
      refine own_getF (pc' := 283) X322 hx hZ hown (host := "") (Or.inl (own_w hw 39 rfl)) Via.refl e322 f323 (hb hby d1_280) rfl ?_
      intro T324 X324 e324
      refine own_lushr (pc' := 284) X324 hx (hb hby d1_283) rfl ?_
      have f325 := (((((((((((((((((((F_moved0.other W252 (Or.inr (slot_ne (Or.inr (own_w hw 50 rfl)) (Or.inr (own_w hw 16 rfl)) (by decide) (t := .long) (t' := .int) (by decide +kernel) (by decide +kernel)))).other W256 (Or.inr (slot_ne (Or.inr (own_w hw 50 rfl)) (Or.inr (own_w hw 19 rfl)) (by decide) (t := .long) (t' := .int) (by decide +kernel) (by decide +kernel)))).other W259 (Or.inr (slot_ne (Or.inr (own_w hw 50 rfl)) (Or.inr (own_w hw 21 rfl)) (by decide) (t := .long) (t' := .long) (by decide +kernel) (by decide +kernel)))).other W262 (Or.inr (slot_ne (Or.inr (own_w hw 50 rfl)) (Or.inr (own_w hw 23 rfl)) (by decide) (t := .long) (t' := .long) (by decide +kernel) (by decide +kernel)))).other W266 (Or.inr (slot_ne (Or.inr (own_w hw 50 rfl)) (Or.inr (own_w hw 25 rfl)) (by decide) (t := .long) (t' := .int) (by decide +kernel) (by decide +kernel)))).other W271 (Or.inr (slot_ne (Or.inr (own_w hw 50 rfl)) (Or.inr (own_w hw 27 rfl)) (by decide) (t := .long) (t' := .long) (by decide +kernel) (by decide +kernel)))).ext E273).keep K277 (ninS ne_a1_b273 nin0)).keep K280 (ninS ne_a1_b273 nin0)).other W285 (Or.inr (slot_ne (Or.inr (own_w hw 50 rfl)) (Or.inr (own_w hw 30 rfl)) (by decide) (t := .long) (t' := .long) (by decide +kernel) (by decide +kernel)))).other W289 (Or.inr (slot_ne (Or.inr (own_w hw 50 rfl)) (Or.inr (own_w hw 32 rfl)) (by decide) (t := .long) (t' := .long) (by decide +kernel) (by decide +kernel)))).other W293 (Or.inr (slot_ne (Or.inr (own_w hw 50 rfl)) (Or.inr (own_w hw 34 rfl)) (by decide) (t := .long) (t' := .long) (by decide +kernel) (by decide +kernel)))).other W297 (Or.inr (slot_ne (Or.inr (own_w hw 50 rfl)) (Or.inr (own_w hw 36 rfl)) (by decide) (t := .long) (t' := .long) (by decide +kernel) (by decide +kernel)))).other W301 (Or.inr (slot_ne (Or.inr (own_w hw 50 rfl)) (Or.inr (own_w hw 38 rfl)) (by decide) (t := .long) (t' := .long) (by decide +kernel) (by decide +kernel)))).other W304 (Or.inr (slot_ne (Or.inr (own_w hw 50 rfl)) (Or.inr (own_w hw 40 rfl)) (by decide) (t := .long) (t' := .int) (by decide +kernel) (by decide +kernel)))).other W307 (Or.inr (slot_ne (Or.inr (own_w hw 50 rfl)) (Or.inr (own_w hw 42 rfl)) (by decide) (t := .long) (t' := .int) (by decide +kernel) (by decide +kernel)))).other W311 (Or.inr (slot_ne (Or.inr (own_w hw 50 rfl)) (Or.inr (own_w hw 44 rfl)) (by decide) (t := .long) (t' := .int) (by decide +kernel) (by decide +kernel)))).other W315 (Or.inr (slot_ne (Or.inr (own_w hw 50 rfl)) (Or.inr (own_w hw 46 rfl)) (by decide) (t := .long) (t' := .int) (by decide +kernel) (by decide +kernel)))).other W319 (Or.inr (slot_ne (Or.inr (own_w hw 50 rfl)) (Or.inr (own_w hw 48 rfl)) (by decide) (t := .long) (t' := .int) (by decide +kernel) (by decide +kernel))))
      have f326 := (f318.wr W319)
      obtain ⟨v328, hv328⟩ : ∃ z : Int64, z = ((mv277.toUInt64 >>> (v2 &&& 0x3f).toInt64.toUInt64).toInt64) := ⟨_, rfl⟩
      rw [← hv328]
      refine own_putF (pc' := 287) X324 hx hZ hown (host := "") (Or.inl (own_w hw 49 rfl)) Via.refl e324 f325 f326 (Or.inr ⟨(own_w hw 50 rfl), rfl, hnm⟩) (own_w hw 2 rfl) (ty := .long) (by decide) rfl rfl (hb hby d1_284) rfl ?_
      intro T327 h327 X327 e327 W327
      have z327 : n0 ≤ h327.size := Nat.le_trans z319 (Keep.of_wr W327).1
      have Fw327 := f325.same W327
      have N327 := Fr.snoc X327 N319 g_a1
      have K327 : Keep h0 h327 [a1] := K319.wr W327 (Or.inl (List.mem_of_getElem? (i := 0) rfl))
      refine own_aloadN (pc' := 288) X327 hx (hb hby d1_287) rfl rfl rfl ?_
      refine own_aloadN (pc' := 289) X327 hx (hb hby d1_288) rfl rfl rfl ?_
      have f329 := (((((((((Fw289.other W293 (Or.inr (slot_ne (Or.inr (own_w hw 32 rfl)) (Or.inr (own_w hw 34 rfl)) (by decide) (t := .long) (t' := .long) (by decide +kernel) (by decide +kernel)))).other W297 (Or.inr (slot_ne (Or.inr (own_w hw 32 rfl)) (Or.inr (own_w hw 36 rfl)) (by decide) (t := .long) (t' := .long) (by decide +kernel) (by decide +kernel)))).other W301 (Or.inr (slot_ne (Or.inr (own_w hw 32 rfl)) (Or.inr (own_w hw 38 rfl)) (by decide) (t := .long) (t' := .long) (by decide +kernel) (by decide +kernel)))).other W304 (Or.inr (slot_ne (Or.inr (own_w hw 32 rfl)) (Or.inr (own_w hw 40 rfl)) (by decide) (t := .long) (t' := .int) (by decide +kernel) (by decide +kernel)))).other W307 (Or.inr (slot_ne (Or.inr (own_w hw 32 rfl)) (Or.inr (own_w hw 42 rfl)) (by decide) (t := .long) (t' := .int) (by decide +kernel) (by decide +kernel)))).other W311 (Or.inr (slot_ne (Or.inr (own_w hw 32 rfl)) (Or.inr (own_w hw 44 rfl)) (by decide) (t := .long) (t' := .int) (by decide +kernel) (by decide +kernel)))).other W315 (Or.inr (slot_ne (Or.inr (own_w hw 32 rfl)) (Or.inr (own_w hw 46 rfl)) (by decide) (t := .long) (t' := .int) (by decide +kernel) (by decide +kernel)))).other W319 (Or.inr (slot_ne (Or.inr (own_w hw 32 rfl)) (Or.inr (own_w hw 48 rfl)) (by decide) (t := .long) (t' := .int) (by decide +kernel) (by decide +kernel)))).other W327 (Or.inr (slot_ne (Or.inr (own_w hw 32 rfl)) (Or.inr (own_w hw 50 rfl)) (by decide) (t := .long) (t' := .long) (by decide +kernel) (by decide +kernel))))
      refine own_getF (pc' := 292) X327 hx hZ hown (host := "") (Or.inl (own_w hw 31 rfl)) Via.refl e327 f329 (hb hby d1_289) rfl ?_
      intro T330 X330 e330
      refine own_aloadN (pc' := 293) X330 hx (hb hby d1_292) rfl rfl rfl ?_
      have f331 := ((((Fw307.other W311 (Or.inr (slot_ne (Or.inr (own_w hw 42 rfl)) (Or.inr (own_w hw 44 rfl)) (by decide) (t := .int) (t' := .int) (by decide +kernel) (by decide +kernel)))).other W315 (Or.inr (slot_ne (Or.inr (own_w hw 42 rfl)) (Or.inr (own_w hw 46 rfl)) (by decide) (t := .int) (t' := .int) (by decide +kernel) (by decide +kernel)))).other W319 (Or.inr (slot_ne (Or.inr (own_w hw 42 rfl)) (Or.inr (own_w hw 48 rfl)) (by decide) (t := .int) (t' := .int) (by decide +kernel) (by decide +kernel)))).other W327 (Or.inr (slot_ne (Or.inr (own_w hw 42 rfl)) (Or.inr (own_w hw 50 rfl)) (by decide) (t := .int) (t' := .long) (by decide +kernel) (by decide +kernel))))
      refine own_getF (pc' := 296) X330 hx hZ hown (host := "") (Or.inl (own_w hw 41 rfl)) Via.refl e330 f331 (hb hby d1_293) rfl ?_
      intro T332 X332 e332
      refine own_lushr (pc' := 297) X332 hx (hb hby d1_296) rfl ?_
      have f333 := ((((((((((((((((((((F_moved1.other W252 (Or.inr (slot_ne (Or.inr (own_w hw 52 rfl)) (Or.inr (own_w hw 16 rfl)) (by decide) (t := .long) (t' := .int) (by decide +kernel) (by decide +kernel)))).other W256 (Or.inr (slot_ne (Or.inr (own_w hw 52 rfl)) (Or.inr (own_w hw 19 rfl)) (by decide) (t := .long) (t' := .int) (by decide +kernel) (by decide +kernel)))).other W259 (Or.inr (slot_ne (Or.inr (own_w hw 52 rfl)) (Or.inr (own_w hw 21 rfl)) (by decide) (t := .long) (t' := .long) (by decide +kernel) (by decide +kernel)))).other W262 (Or.inr (slot_ne (Or.inr (own_w hw 52 rfl)) (Or.inr (own_w hw 23 rfl)) (by decide) (t := .long) (t' := .long) (by decide +kernel) (by decide +kernel)))).other W266 (Or.inr (slot_ne (Or.inr (own_w hw 52 rfl)) (Or.inr (own_w hw 25 rfl)) (by decide) (t := .long) (t' := .int) (by decide +kernel) (by decide +kernel)))).other W271 (Or.inr (slot_ne (Or.inr (own_w hw 52 rfl)) (Or.inr (own_w hw 27 rfl)) (by decide) (t := .long) (t' := .long) (by decide +kernel) (by decide +kernel)))).ext E273).keep K277 (ninS ne_a1_b273 nin0)).keep K280 (ninS ne_a1_b273 nin0)).other W285 (Or.inr (slot_ne (Or.inr (own_w hw 52 rfl)) (Or.inr (own_w hw 30 rfl)) (by decide) (t := .long) (t' := .long) (by decide +kernel) (by decide +kernel)))).other W289 (Or.inr (slot_ne (Or.inr (own_w hw 52 rfl)) (Or.inr (own_w hw 32 rfl)) (by decide) (t := .long) (t' := .long) (by decide +kernel) (by decide +kernel)))).other W293 (Or.inr (slot_ne (Or.inr (own_w hw 52 rfl)) (Or.inr (own_w hw 34 rfl)) (by decide) (t := .long) (t' := .long) (by decide +kernel) (by decide +kernel)))).other W297 (Or.inr (slot_ne (Or.inr (own_w hw 52 rfl)) (Or.inr (own_w hw 36 rfl)) (by decide) (t := .long) (t' := .long) (by decide +kernel) (by decide +kernel)))).other W301 (Or.inr (slot_ne (Or.inr (own_w hw 52 rfl)) (Or.inr (own_w hw 38 rfl)) (by decide) (t := .long) (t' := .long) (by decide +kernel) (by decide +kernel)))).other W304 (Or.inr (slot_ne (Or.inr (own_w hw 52 rfl)) (Or.inr (own_w hw 40 rfl)) (by decide) (t := .long) (t' := .int) (by decide +kernel) (by decide +kernel)))).other W307 (Or.inr (slot_ne (Or.inr (own_w hw 52 rfl)) (Or.inr (own_w hw 42 rfl)) (by decide) (t := .long) (t' := .int) (by decide +kernel) (by decide +kernel)))).other W311 (Or.inr (slot_ne (Or.inr (own_w hw 52 rfl)) (Or.inr (own_w hw 44 rfl)) (by decide) (t := .long) (t' := .int) (by decide +kernel) (by decide +kernel)))).other W315 (Or.inr (slot_ne (Or.inr (own_w hw 52 rfl)) (Or.inr (own_w hw 46 rfl)) (by decide) (t := .long) (t' := .int) (by decide +kernel) (by decide +kernel)))).other W319 (Or.inr (slot_ne (Or.inr (own_w hw 52 rfl)) (Or.inr (own_w hw 48 rfl)) (by decide) (t := .long) (t' := .int) (by decide +kernel) (by decide +kernel)))).other W327 (Or.inr (slot_ne (Or.inr (own_w hw 52 rfl)) (Or.inr (own_w hw 50 rfl)) (by decide) (t := .long) (t' := .long) (by decide +kernel) (by decide +kernel))))
      have f334 := (f326.wr W327)
      obtain ⟨v336, hv336⟩ : ∃ z : Int64, z = ((mv280.toUInt64 >>> (v308 &&& 0x3f).toInt64.toUInt64).toInt64) := ⟨_, rfl⟩
      rw [← hv336]
      refine own_putF (pc' := 300) X332 hx hZ hown (host := "") (Or.inl (own_w hw 51 rfl)) Via.refl e332 f333 f334 (Or.inr ⟨(own_w hw 52 rfl), rfl, hnm⟩) (own_w hw 2 rfl) (ty := .long) (by decide) rfl rfl (hb hby d1_297) rfl ?_
      intro T335 h335 X335 e335 W335
      have z335 : n0 ≤ h335.size := Nat.le_trans z327 (Keep.of_wr W335).1
      have Fw335 := f333.same W335
      have N335 := Fr.snoc X335 N327 g_a1
      have K335 : Keep h0 h335 [a1] := K327.wr W335 (Or.inl (List.mem_of_getElem? (i := 0) rfl))
      refine own_aloadN (pc' := 301) X335 hx (hb hby d1_300) rfl rfl rfl ?_
      refine own_aloadN (pc' := 302) X335 hx (hb hby d1_301) rfl rfl rfl ?_
      have f337 := (((((((((Fw293.other W297 (Or.inr (slot_ne (Or.inr (own_w hw 34 rfl)) (Or.inr (own_w hw 36 rfl)) (by decide) (t := .long) (t' := .long) (by decide +kernel) (by decide +kernel)))).other W301 (Or.inr (slot_ne (Or.inr (own_w hw 34 rfl)) (Or.inr (own_w hw 38 rfl)) (by decide) (t := .long) (t' := .long) (by decide +kernel) (by decide +kernel)))).other W304 (Or.inr (slot_ne (Or.inr (own_w hw 34 rfl)) (Or.inr (own_w hw 40 rfl)) (by decide) (t := .long) (t' := .int) (by decide +kernel) (by decide +kernel)))).other W307 (Or.inr (slot_ne (Or.inr (own_w hw 34 rfl)) (Or.inr (own_w hw 42 rfl)) (by decide) (t := .long) (t' := .int) (by decide +kernel) (by decide +kernel)))).other W311 (Or.inr (slot_ne (Or.inr (own_w hw 34 rfl)) (Or.inr (own_w hw 44 rfl)) (by decide) (t := .long) (t' := .int) (by decide +kernel) (by decide +kernel)))).other W315 (Or.inr (slot_ne (Or.inr (own_w hw 34 rfl)) (Or.inr (own_w hw 46 rfl)) (by decide) (t := .long) (t' := .int) (by decide +kernel) (by decide +kernel)))).other W319 (Or.inr (slot_ne (Or.inr (own_w hw 34 rfl)) (Or.inr (own_w hw 48 rfl)) (by decide) (t := .long) (t' := .int) (by decide +kernel) (by decide +kernel)))).other W327 (Or.inr (slot_ne (Or.inr (own_w hw 34 rfl)) (Or.inr (own_w hw 50 rfl)) (by decide) (t := .long) (t' := .long) (by decide +kernel) (by decide +kernel)))).other W335 (Or.inr (slot_ne (Or.inr (own_w hw 34 rfl)) (Or.inr (own_w hw 52 rfl)) (by decide) (t := .long) (t' := .long) (by decide +kernel) (by decide +kernel))))
      refine own_getF (pc' := 305) X335 hx hZ hown (host := "") (Or.inl (own_w hw 33 rfl)) Via.refl e335 f337 (hb hby d1_302) rfl ?_
      intro T338 X338 e338
      refine own_aloadN (pc' := 306) X338 hx (hb hby d1_305) rfl rfl rfl ?_
      have f339 := ((((Fw311.other W315 (Or.inr (slot_ne (Or.inr (own_w hw 44 rfl)) (Or.inr (own_w hw 46 rfl)) (by decide) (t := .int) (t' := .int) (by decide +kernel) (by decide +kernel)))).other W319 (Or.inr (slot_ne (Or.inr (own_w hw 44 rfl)) (Or.inr (own_w hw 48 rfl)) (by decide) (t := .int) (t' := .int) (by decide +kernel) (by decide +kernel)))).other W327 (Or.inr (slot_ne (Or.inr (own_w hw 44 rfl)) (Or.inr (own_w hw 50 rfl)) (by decide) (t := .int) (t' := .long) (by decide +kernel) (by decide +kernel)))).other W335 (Or.inr (slot_ne (Or.inr (own_w hw 44 rfl)) (Or.inr (own_w hw 52 rfl)) (by decide) (t := .int) (t' := .long) (by decide +kernel) (by decide +kernel))))
      refine own_getF (pc' := 309) X338 hx hZ hown (host := "") (Or.inl (own_w hw 43 rfl)) Via.refl e338 f339 (hb hby d1_306) rfl ?_
      intro T340 X340 e340
      refine own_lushr (pc' := 310) X340 hx (hb hby d1_309) rfl ?_
      have f341 := (((((((((((((((((((((F_moved2.other W252 (Or.inr (slot_ne (Or.inr (own_w hw 54 rfl)) (Or.inr (own_w hw 16 rfl)) (by decide) (t := .long) (t' := .int) (by decide +kernel) (by decide +kernel)))).other W256 (Or.inr (slot_ne (Or.inr (own_w hw 54 rfl)) (Or.inr (own_w hw 19 rfl)) (by decide) (t := .long) (t' := .int) (by decide +kernel) (by decide +kernel)))).other W259 (Or.inr (slot_ne (Or.inr (own_w hw 54 rfl)) (Or.inr (own_w hw 21 rfl)) (by decide) (t := .long) (t' := .long) (by decide +kernel) (by decide +kernel)))).other W262 (Or.inr (slot_ne (Or.inr (own_w hw 54 rfl)) (Or.inr (own_w hw 23 rfl)) (by decide) (t := .long) (t' := .long) (by decide +kernel) (by decide +kernel)))).other W266 (Or.inr (slot_ne (Or.inr (own_w hw 54 rfl)) (Or.inr (own_w hw 25 rfl)) (by decide) (t := .long) (t' := .int) (by decide +kernel) (by decide +kernel)))).other W271 (Or.inr (slot_ne (Or.inr (own_w hw 54 rfl)) (Or.inr (own_w hw 27 rfl)) (by decide) (t := .long) (t' := .long) (by decide +kernel) (by decide +kernel)))).ext E273).keep K277 (ninS ne_a1_b273 nin0)).keep K280 (ninS ne_a1_b273 nin0)).other W285 (Or.inr (slot_ne (Or.inr (own_w hw 54 rfl)) (Or.inr (own_w hw 30 rfl)) (by decide) (t := .long) (t' := .long) (by decide +kernel) (by decide +kernel)))).other W289 (Or.inr (slot_ne (Or.inr (own_w hw 54 rfl)) (Or.inr (own_w hw 32 rfl)) (by decide) (t := .long) (t' := .long) (by decide +kernel) (by decide +kernel)))).other W293 (Or.inr (slot_ne (Or.inr (own_w hw 54 rfl)) (Or.inr (own_w hw 34 rfl)) (by decide) (t := .long) (t' := .long) (by decide +kernel) (by decide +kernel)))).other W297 (Or.inr (slot_ne (Or.inr (own_w hw 54 rfl)) (Or.inr (own_w hw 36 rfl)) (by decide) (t := .long) (t' := .long) (by decide +kernel) (by decide +kernel)))).other W301 (Or.inr (slot_ne (Or.inr (own_w hw 54 rfl)) (Or.inr (own_w hw 38 rfl)) (by decide) (t := .long) (t' := .long) (by decide +kernel) (by decide +kernel)))).other W304 (Or.inr (slot_ne (Or.inr (own_w hw 54 rfl)) (Or.inr (own_w hw 40 rfl)) (by decide) (t := .long) (t' := .int) (by decide +kernel) (by decide +kernel)))).other W307 (Or.inr (slot_ne (Or.inr (own_w hw 54 rfl)) (Or.inr (own_w hw 42 rfl)) (by decide) (t := .long) (t' := .int) (by decide +kernel) (by decide +kernel)))).other W311 (Or.inr (slot_ne (Or.inr (own_w hw 54 rfl)) (Or.inr (own_w hw 44 rfl)) (by decide) (t := .long) (t' := .int) (by decide +kernel) (by decide +kernel)))).other W315 (Or.inr (slot_ne (Or.inr (own_w hw 54 rfl)) (Or.inr (own_w hw 46 rfl)) (by decide) (t := .long) (t' := .int) (by decide +kernel) (by decide +kernel)))).other W319 (Or.inr (slot_ne (Or.inr (own_w hw 54 rfl)) (Or.inr (own_w hw 48 rfl)) (by decide) (t := .long) (t' := .int) (by decide +kernel) (by decide +kernel)))).other W327 (Or.inr (slot_ne (Or.inr (own_w hw 54 rfl)) (Or.inr (own_w hw 50 rfl)) (by decide) (t := .long) (t' := .long) (by decide +kernel) (by decide +kernel)))).other W335 (Or.inr (slot_ne (Or.inr (own_w hw 54 rfl)) (Or.inr (own_w hw 52 rfl)) (by decide) (t := .long) (t' := .long) (by decide +kernel) (by decide +kernel))))
      have f342 := (f334.wr W335)
      obtain ⟨v344, hv344⟩ : ∃ z : Int64, z = (((0 : Int64).toUInt64 >>> (v312 &&& 0x3f).toInt64.toUInt64).toInt64) := ⟨_, rfl⟩
      rw [← hv344]
      refine own_putF (pc' := 313) X340 hx hZ hown (host := "") (Or.inl (own_w hw 53 rfl)) Via.refl e340 f341 f342 (Or.inr ⟨(own_w hw 54 rfl), rfl, hnm⟩) (own_w hw 2 rfl) (ty := .long) (by decide) rfl rfl (hb hby d1_310) rfl ?_
      intro T343 h343 X343 e343 W343
      have z343 : n0 ≤ h343.size := Nat.le_trans z335 (Keep.of_wr W343).1
      have Fw343 := f341.same W343
      have N343 := Fr.snoc X343 N335 g_a1
      have K343 : Keep h0 h343 [a1] := K335.wr W343 (Or.inl (List.mem_of_getElem? (i := 0) rfl))
      refine own_aloadN (pc' := 314) X343 hx (hb hby d1_313) rfl rfl rfl ?_
      refine own_aloadN (pc' := 315) X343 hx (hb hby d1_314) rfl rfl rfl ?_
      have f345 := (((((((((Fw297.other W301 (Or.inr (slot_ne (Or.inr (own_w hw 36 rfl)) (Or.inr (own_w hw 38 rfl)) (by decide) (t := .long) (t' := .long) (by decide +kernel) (by decide +kernel)))).other W304 (Or.inr (slot_ne (Or.inr (own_w hw 36 rfl)) (Or.inr (own_w hw 40 rfl)) (by decide) (t := .long) (t' := .int) (by decide +kernel) (by decide +kernel)))).other W307 (Or.inr (slot_ne (Or.inr (own_w hw 36 rfl)) (Or.inr (own_w hw 42 rfl)) (by decide) (t := .long) (t' := .int) (by decide +kernel) (by decide +kernel)))).other W311 (Or.inr (slot_ne (Or.inr (own_w hw 36 rfl)) (Or.inr (own_w hw 44 rfl)) (by decide) (t := .long) (t' := .int) (by decide +kernel) (by decide +kernel)))).other W315 (Or.inr (slot_ne (Or.inr (own_w hw 36 rfl)) (Or.inr (own_w hw 46 rfl)) (by decide) (t := .long) (t' := .int) (by decide +kernel) (by decide +kernel)))).other W319 (Or.inr (slot_ne (Or.inr (own_w hw 36 rfl)) (Or.inr (own_w hw 48 rfl)) (by decide) (t := .long) (t' := .int) (by decide +kernel) (by decide +kernel)))).other W327 (Or.inr (slot_ne (Or.inr (own_w hw 36 rfl)) (Or.inr (own_w hw 50 rfl)) (by decide) (t := .long) (t' := .long) (by decide +kernel) (by decide +kernel)))).other W335 (Or.inr (slot_ne (Or.inr (own_w hw 36 rfl)) (Or.inr (own_w hw 52 rfl)) (by decide) (t := .long) (t' := .long) (by decide +kernel) (by decide +kernel)))).other W343 (Or.inr (slot_ne (Or.inr (own_w hw 36 rfl)) (Or.inr (own_w hw 54 rfl)) (by decide) (t := .long) (t' := .long) (by decide +kernel) (by decide +kernel))))
      refine own_getF (pc' := 318) X343 hx hZ hown (host := "") (Or.inl (own_w hw 35 rfl)) Via.refl e343 f345 (hb hby d1_315) rfl ?_
      intro T346 X346 e346
      refine own_aloadN (pc' := 319) X346 hx (hb hby d1_318) rfl rfl rfl ?_
      have f347 := ((((Fw315.other W319 (Or.inr (slot_ne (Or.inr (own_w hw 46 rfl)) (Or.inr (own_w hw 48 rfl)) (by decide) (t := .int) (t' := .int) (by decide +kernel) (by decide +kernel)))).other W327 (Or.inr (slot_ne (Or.inr (own_w hw 46 rfl)) (Or.inr (own_w hw 50 rfl)) (by decide) (t := .int) (t' := .long) (by decide +kernel) (by decide +kernel)))).other W335 (Or.inr (slot_ne (Or.inr (own_w hw 46 rfl)) (Or.inr (own_w hw 52 rfl)) (by decide) (t := .int) (t' := .long) (by decide +kernel) (by decide +kernel)))).other W343 (Or.inr (slot_ne (Or.inr (own_w hw 46 rfl)) (Or.inr (own_w hw 54 rfl)) (by decide) (t := .int) (t' := .long) (by decide +kernel) (by decide +kernel))))
      refine own_getF (pc' := 322) X346 hx hZ hown (host := "") (Or.inl (own_w hw 45 rfl)) Via.refl e346 f347 (hb hby d1_319) rfl ?_
      intro T348 X348 e348
      refine own_lushr (pc' := 323) X348 hx (hb hby d1_322) rfl ?_
      have f349 := ((((((((((((((((((((((F_moved3.other W252 (Or.inr (slot_ne (Or.inr (own_w hw 56 rfl)) (Or.inr (own_w hw 16 rfl)) (by decide) (t := .long) (t' := .int) (by decide +kernel) (by decide +kernel)))).other W256 (Or.inr (slot_ne (Or.inr (own_w hw 56 rfl)) (Or.inr (own_w hw 19 rfl)) (by decide) (t := .long) (t' := .int) (by decide +kernel) (by decide +kernel)))).other W259 (Or.inr (slot_ne (Or.inr (own_w hw 56 rfl)) (Or.inr (own_w hw 21 rfl)) (by decide) (t := .long) (t' := .long) (by decide +kernel) (by decide +kernel)))).other W262 (Or.inr (slot_ne (Or.inr (own_w hw 56 rfl)) (Or.inr (own_w hw 23 rfl)) (by decide) (t := .long) (t' := .long) (by decide +kernel) (by decide +kernel)))).other W266 (Or.inr (slot_ne (Or.inr (own_w hw 56 rfl)) (Or.inr (own_w hw 25 rfl)) (by decide) (t := .long) (t' := .int) (by decide +kernel) (by decide +kernel)))).other W271 (Or.inr (slot_ne (Or.inr (own_w hw 56 rfl)) (Or.inr (own_w hw 27 rfl)) (by decide) (t := .long) (t' := .long) (by decide +kernel) (by decide +kernel)))).ext E273).keep K277 (ninS ne_a1_b273 nin0)).keep K280 (ninS ne_a1_b273 nin0)).other W285 (Or.inr (slot_ne (Or.inr (own_w hw 56 rfl)) (Or.inr (own_w hw 30 rfl)) (by decide) (t := .long) (t' := .long) (by decide +kernel) (by decide +kernel)))).other W289 (Or.inr (slot_ne (Or.inr (own_w hw 56 rfl)) (Or.inr (own_w hw 32 rfl)) (by decide) (t := .long) (t' := .long) (by decide +kernel) (by decide +kernel)))).other W293 (Or.inr (slot_ne (Or.inr (own_w hw 56 rfl)) (Or.inr (own_w hw 34 rfl)) (by decide) (t := .long) (t' := .long) (by decide +kernel) (by decide +kernel)))).other W297 (Or.inr (slot_ne (Or.inr (own_w hw 56 rfl)) (Or.inr (own_w hw 36 rfl)) (by decide) (t := .long) (t' := .long) (by decide +kernel) (by decide +kernel)))).other W301 (Or.inr (slot_ne (Or.inr (own_w hw 56 rfl)) (Or.inr (own_w hw 38 rfl)) (by decide) (t := .long) (t' := .long) (by decide +kernel) (by decide +kernel)))).other W304 (Or.inr (slot_ne (Or.inr (own_w hw 56 rfl)) (Or.inr (own_w hw 40 rfl)) (by decide) (t := .long) (t' := .int) (by decide +kernel) (by decide +kernel)))).other W307 (Or.inr (slot_ne (Or.inr (own_w hw 56 rfl)) (Or.inr (own_w hw 42 rfl)) (by decide) (t := .long) (t' := .int) (by decide +kernel) (by decide +kernel)))).other W311 (Or.inr (slot_ne (Or.inr (own_w hw 56 rfl)) (Or.inr (own_w hw 44 rfl)) (by decide) (t := .long) (t' := .int) (by decide +kernel) (by decide +kernel)))).other W315 (Or.inr (slot_ne (Or.inr (own_w hw 56 rfl)) (Or.inr (own_w hw 46 rfl)) (by decide) (t := .long) (t' := .int) (by decide +kernel) (by decide +kernel)))).other W319 (Or.inr (slot_ne (Or.inr (own_w hw 56 rfl)) (Or.inr (own_w hw 48 rfl)) (by decide) (t := .long) (t' := .int) (by decide +kernel) (by decide +kernel)))).other W327 (Or.inr (slot_ne (Or.inr (own_w hw 56 rfl)) (Or.inr (own_w hw 50 rfl)) (by decide) (t := .long) (t' := .long) (by decide +kernel) (by decide +kernel)))).other W335 (Or.inr (slot_ne (Or.inr (own_w hw 56 rfl)) (Or.inr (own_w hw 52 rfl)) (by decide) (t := .long) (t' := .long) (by decide +kernel) (by decide +kernel)))).other W343 (Or.inr (slot_ne (Or.inr (own_w hw 56 rfl)) (Or.inr (own_w hw 54 rfl)) (by decide) (t := .long) (t' := .long) (by decide +kernel) (by decide +kernel))))
      have f350 := (f342.wr W343)
      obtain ⟨v352, hv352⟩ : ∃ z : Int64, z = (((0 : Int64).toUInt64 >>> (v316 &&& 0x3f).toInt64.toUInt64).toInt64) := ⟨_, rfl⟩
      rw [← hv352]
      refine own_putF (pc' := 326) X348 hx hZ hown (host := "") (Or.inl (own_w hw 55 rfl)) Via.refl e348 f349 f350 (Or.inr ⟨(own_w hw 56 rfl), rfl, hnm⟩) (own_w hw 2 rfl) (ty := .long) (by decide) rfl rfl (hb hby d1_323) rfl ?_
      intro T351 h351 X351 e351 W351
      have z351 : n0 ≤ h351.size := Nat.le_trans z343 (Keep.of_wr W351).1
      have Fw351 := f349.same W351
      have N351 := Fr.snoc X351 N343 g_a1
      have K351 : Keep h0 h351 [a1] := K343.wr W351 (Or.inl (List.mem_of_getElem? (i := 0) rfl))
      refine own_aloadN (pc' := 327) X351 hx (hb hby d1_326) rfl rfl rfl ?_
      refine own_aloadN (pc' := 328) X351 hx (hb hby d1_327) rfl rfl rfl ?_
      have f353 := (((((((((Fw301.other W304 (Or.inr (slot_ne (Or.inr (own_w hw 38 rfl)) (Or.inr (own_w hw 40 rfl)) (by decide) (t := .long) (t' := .int) (by decide +kernel) (by decide +kernel)))).other W307 (Or.inr (slot_ne (Or.inr (own_w hw 38 rfl)) (Or.inr (own_w hw 42 rfl)) (by decide) (t := .long) (t' := .int) (by decide +kernel) (by decide +kernel)))).other W311 (Or.inr (slot_ne (Or.inr (own_w hw 38 rfl)) (Or.inr (own_w hw 44 rfl)) (by decide) (t := .long) (t' := .int) (by decide +kernel) (by decide +kernel)))).other W315 (Or.inr (slot_ne (Or.inr (own_w hw 38 rfl)) (Or.inr (own_w hw 46 rfl)) (by decide) (t := .long) (t' := .int) (by decide +kernel) (by decide +kernel)))).other W319 (Or.inr (slot_ne (Or.inr (own_w hw 38 rfl)) (Or.inr (own_w hw 48 rfl)) (by decide) (t := .long) (t' := .int) (by decide +kernel) (by decide +kernel)))).other W327 (Or.inr (slot_ne (Or.inr (own_w hw 38 rfl)) (Or.inr (own_w hw 50 rfl)) (by decide) (t := .long) (t' := .long) (by decide +kernel) (by decide +kernel)))).other W335 (Or.inr (slot_ne (Or.inr (own_w hw 38 rfl)) (Or.inr (own_w hw 52 rfl)) (by decide) (t := .long) (t' := .long) (by decide +kernel) (by decide +kernel)))).other W343 (Or.inr (slot_ne (Or.inr (own_w hw 38 rfl)) (Or.inr (own_w hw 54 rfl)) (by decide) (t := .long) (t' := .long) (by decide +kernel) (by decide +kernel)))).other W351 (Or.inr (slot_ne (Or.inr (own_w hw 38 rfl)) (Or.inr (own_w hw 56 rfl)) (by decide) (t := .long) (t' := .long) (by decide +kernel) (by decide +kernel))))
      refine own_getF (pc' := 331) X351 hx hZ hown (host := "") (Or.inl (own_w hw 37 rfl)) Via.refl e351 f353 (hb hby d1_328) rfl ?_
      intro T354 X354 e354
      refine own_aloadN (pc' := 332) X354 hx (hb hby d1_331) rfl rfl rfl ?_
      have f355 := ((((Fw319.other W327 (Or.inr (slot_ne (Or.inr (own_w hw 48 rfl)) (Or.inr (own_w hw 50 rfl)) (by decide) (t := .int) (t' := .long) (by decide +kernel) (by decide +kernel)))).other W335 (Or.inr (slot_ne (Or.inr (own_w hw 48 rfl)) (Or.inr (own_w hw 52 rfl)) (by decide) (t := .int) (t' := .long) (by decide +kernel) (by decide +kernel)))).other W343 (Or.inr (slot_ne (Or.inr (own_w hw 48 rfl)) (Or.inr (own_w hw 54 rfl)) (by decide) (t := .int) (t' := .long) (by decide +kernel) (by decide +kernel)))).other W351 (Or.inr (slot_ne (Or.inr (own_w hw 48 rfl)) (Or.inr (own_w hw 56 rfl)) (by decide) (t := .int) (t' := .long) (by decide +kernel) (by decide +kernel))))
      refine own_getF (pc' := 335) X354 hx hZ hown (host := "") (Or.inl (own_w hw 47 rfl)) Via.refl e354 f355 (hb hby d1_332) rfl ?_
      intro T356 X356 e356
      refine own_lushr (pc' := 336) X356 hx (hb hby d1_335) rfl ?_
      have f357 := (((((((((((((((((((((((F_moved4.other W252 (Or.inr (slot_ne (Or.inr (own_w hw 58 rfl)) (Or.inr (own_w hw 16 rfl)) (by decide) (t := .long) (t' := .int) (by decide +kernel) (by decide +kernel)))).other W256 (Or.inr (slot_ne (Or.inr (own_w hw 58 rfl)) (Or.inr (own_w hw 19 rfl)) (by decide) (t := .long) (t' := .int) (by decide +kernel) (by decide +kernel)))).other W259 (Or.inr (slot_ne (Or.inr (own_w hw 58 rfl)) (Or.inr (own_w hw 21 rfl)) (by decide) (t := .long) (t' := .long) (by decide +kernel) (by decide +kernel)))).other W262 (Or.inr (slot_ne (Or.inr (own_w hw 58 rfl)) (Or.inr (own_w hw 23 rfl)) (by decide) (t := .long) (t' := .long) (by decide +kernel) (by decide +kernel)))).other W266 (Or.inr (slot_ne (Or.inr (own_w hw 58 rfl)) (Or.inr (own_w hw 25 rfl)) (by decide) (t := .long) (t' := .int) (by decide +kernel) (by decide +kernel)))).other W271 (Or.inr (slot_ne (Or.inr (own_w hw 58 rfl)) (Or.inr (own_w hw 27 rfl)) (by decide) (t := .long) (t' := .long) (by decide +kernel) (by decide +kernel)))).ext E273).keep K277 (ninS ne_a1_b273 nin0)).keep K280 (ninS ne_a1_b273 nin0)).other W285 (Or.inr (slot_ne (Or.inr (own_w hw 58 rfl)) (Or.inr (own_w hw 30 rfl)) (by decide) (t := .long) (t' := .long) (by decide +kernel) (by decide +kernel)))).other W289 (Or.inr (slot_ne (Or.inr (own_w hw 58 rfl)) (Or.inr (own_w hw 32 rfl)) (by decide) (t := .long) (t' := .long) (by decide +kernel) (by decide +kernel)))).other W293 (Or.inr (slot_ne (Or.inr (own_w hw 58 rfl)) (Or.inr (own_w hw 34 rfl)) (by decide) (t := .long) (t' := .long) (by decide +kernel) (by decide +kernel)))).other W297 (Or.inr (slot_ne (Or.inr (own_w hw 58 rfl)) (Or.inr (own_w hw 36 rfl)) (by decide) (t := .long) (t' := .long) (by decide +kernel) (by decide +kernel)))).other W301 (Or.inr (slot_ne (Or.inr (own_w hw 58 rfl)) (Or.inr (own_w hw 38 rfl)) (by decide) (t := .long) (t' := .long) (by decide +kernel) (by decide +kernel)))).other W304 (Or.inr (slot_ne (Or.inr (own_w hw 58 rfl)) (Or.inr (own_w hw 40 rfl)) (by decide) (t := .long) (t' := .int) (by decide +kernel) (by decide +kernel)))).other W307 (Or.inr (slot_ne (Or.inr (own_w hw 58 rfl)) (Or.inr (own_w hw 42 rfl)) (by decide) (t := .long) (t' := .int) (by decide +kernel) (by decide +kernel)))).other W311 (Or.inr (slot_ne (Or.inr (own_w hw 58 rfl)) (Or.inr (own_w hw 44 rfl)) (by decide) (t := .long) (t' := .int) (by decide +kernel) (by decide +kernel)))).other W315 (Or.inr (slot_ne (Or.inr (own_w hw 58 rfl)) (Or.inr (own_w hw 46 rfl)) (by decide) (t := .long) (t' := .int) (by decide +kernel) (by decide +kernel)))).other W319 (Or.inr (slot_ne (Or.inr (own_w hw 58 rfl)) (Or.inr (own_w hw 48 rfl)) (by decide) (t := .long) (t' := .int) (by decide +kernel) (by decide +kernel)))).other W327 (Or.inr (slot_ne (Or.inr (own_w hw 58 rfl)) (Or.inr (own_w hw 50 rfl)) (by decide) (t := .long) (t' := .long) (by decide +kernel) (by decide +kernel)))).other W335 (Or.inr (slot_ne (Or.inr (own_w hw 58 rfl)) (Or.inr (own_w hw 52 rfl)) (by decide) (t := .long) (t' := .long) (by decide +kernel) (by decide +kernel)))).other W343 (Or.inr (slot_ne (Or.inr (own_w hw 58 rfl)) (Or.inr (own_w hw 54 rfl)) (by decide) (t := .long) (t' := .long) (by decide +kernel) (by decide +kernel)))).other W351 (Or.inr (slot_ne (Or.inr (own_w hw 58 rfl)) (Or.inr (own_w hw 56 rfl)) (by decide) (t := .long) (t' := .long) (by decide +kernel) (by decide +kernel))))
      have f358 := (f350.wr W351)
      obtain ⟨v360, hv360⟩ : ∃ z : Int64, z = (((0 : Int64).toUInt64 >>> (v320 &&& 0x3f).toInt64.toUInt64).toInt64) := ⟨_, rfl⟩
      rw [← hv360]
      refine own_putF (pc' := 339) X356 hx hZ hown (host := "") (Or.inl (own_w hw 57 rfl)) Via.refl e356 f357 f358 (Or.inr ⟨(own_w hw 58 rfl), rfl, hnm⟩) (own_w hw 2 rfl) (ty := .long) (by decide) rfl rfl (hb hby d1_336) rfl ?_
      intro T359 h359 X359 e359 W359
      have z359 : n0 ≤ h359.size := Nat.le_trans z351 (Keep.of_wr W359).1
      have Fw359 := f357.same W359
      have N359 := Fr.snoc X359 N351 g_a1
      have K359 : Keep h0 h359 [a1] := K351.wr W359 (Or.inl (List.mem_of_getElem? (i := 0) rfl))
      have f361 := ((((((((((((((((((((((Fw256.other W259 (Or.inr (slot_ne (Or.inr (own_w hw 19 rfl)) (Or.inr (own_w hw 21 rfl)) (by decide) (t := .int) (t' := .long) (by decide +kernel) (by decide +kernel)))).other W262 (Or.inr (slot_ne (Or.inr (own_w hw 19 rfl)) (Or.inr (own_w hw 23 rfl)) (by decide) (t := .int) (t' := .long) (by decide +kernel) (by decide +kernel)))).other W266 (Or.inr (slot_ne (Or.inr (own_w hw 19 rfl)) (Or.inr (own_w hw 25 rfl)) (by decide) (t := .int) (t' := .int) (by decide +kernel) (by decide +kernel)))).other W271 (Or.inr (slot_ne (Or.inr (own_w hw 19 rfl)) (Or.inr (own_w hw 27 rfl)) (by decide) (t := .int) (t' := .long) (by decide +kernel) (by decide +kernel)))).ext E273).keep K277 (ninS ne_a1_b273 nin0)).keep K280 (ninS ne_a1_b273 nin0)).other W285 (Or.inr (slot_ne (Or.inr (own_w hw 19 rfl)) (Or.inr (own_w hw 30 rfl)) (by decide) (t := .int) (t' := .long) (by decide +kernel) (by decide +kernel)))).other W289 (Or.inr (slot_ne (Or.inr (own_w hw 19 rfl)) (Or.inr (own_w hw 32 rfl)) (by decide) (t := .int) (t' := .long) (by decide +kernel) (by decide +kernel)))).other W293 (Or.inr (slot_ne (Or.inr (own_w hw 19 rfl)) (Or.inr (own_w hw 34 rfl)) (by decide) (t := .int) (t' := .long) (by decide +kernel) (by decide +kernel)))).other W297 (Or.inr (slot_ne (Or.inr (own_w hw 19 rfl)) (Or.inr (own_w hw 36 rfl)) (by decide) (t := .int) (t' := .long) (by decide +kernel) (by decide +kernel)))).other W301 (Or.inr (slot_ne (Or.inr (own_w hw 19 rfl)) (Or.inr (own_w hw 38 rfl)) (by decide) (t := .int) (t' := .long) (by decide +kernel) (by decide +kernel)))).other W304 (Or.inr (slot_ne (Or.inr (own_w hw 19 rfl)) (Or.inr (own_w hw 40 rfl)) (by decide) (t := .int) (t' := .int) (by decide +kernel) (by decide +kernel)))).other W307 (Or.inr (slot_ne (Or.inr (own_w hw 19 rfl)) (Or.inr (own_w hw 42 rfl)) (by decide) (t := .int) (t' := .int) (by decide +kernel) (by decide +kernel)))).other W311 (Or.inr (slot_ne (Or.inr (own_w hw 19 rfl)) (Or.inr (own_w hw 44 rfl)) (by decide) (t := .int) (t' := .int) (by decide +kernel) (by decide +kernel)))).other W315 (Or.inr (slot_ne (Or.inr (own_w hw 19 rfl)) (Or.inr (own_w hw 46 rfl)) (by decide) (t := .int) (t' := .int) (by decide +kernel) (by decide +kernel)))).other W319 (Or.inr (slot_ne (Or.inr (own_w hw 19 rfl)) (Or.inr (own_w hw 48 rfl)) (by decide) (t := .int) (t' := .int) (by decide +kernel) (by decide +kernel)))).other W327 (Or.inr (slot_ne (Or.inr (own_w hw 19 rfl)) (Or.inr (own_w hw 50 rfl)) (by decide) (t := .int) (t' := .long) (by decide +kernel) (by decide +kernel)))).other W335 (Or.inr (slot_ne (Or.inr (own_w hw 19 rfl)) (Or.inr (own_w hw 52 rfl)) (by decide) (t := .int) (t' := .long) (by decide +kernel) (by decide +kernel)))).other W343 (Or.inr (slot_ne (Or.inr (own_w hw 19 rfl)) (Or.inr (own_w hw 54 rfl)) (by decide) (t := .int) (t' := .long) (by decide +kernel) (by decide +kernel)))).other W351 (Or.inr (slot_ne (Or.inr (own_w hw 19 rfl)) (Or.inr (own_w hw 56 rfl)) (by decide) (t := .int) (t' := .long) (by decide +kernel) (by decide +kernel)))).other W359 (Or.inr (slot_ne (Or.inr (own_w hw 19 rfl)) (Or.inr (own_w hw 58 rfl)) (by decide) (t := .int) (t' := .long) (by decide +kernel) (by decide +kernel))))
      have f362 := (((((((((((((((((((((Fw259.other W262 (Or.inr (slot_ne (Or.inr (own_w hw 21 rfl)) (Or.inr (own_w hw 23 rfl)) (by decide) (t := .long) (t' := .long) (by decide +kernel) (by decide +kernel)))).other W266 (Or.inr (slot_ne (Or.inr (own_w hw 21 rfl)) (Or.inr (own_w hw 25 rfl)) (by decide) (t := .long) (t' := .int) (by decide +kernel) (by decide +kernel)))).other W271 (Or.inr (slot_ne (Or.inr (own_w hw 21 rfl)) (Or.inr (own_w hw 27 rfl)) (by decide) (t := .long) (t' := .long) (by decide +kernel) (by decide +kernel)))).ext E273).keep K277 (ninS ne_a1_b273 nin0)).keep K280 (ninS ne_a1_b273 nin0)).other W285 (Or.inr (slot_ne (Or.inr (own_w hw 21 rfl)) (Or.inr (own_w hw 30 rfl)) (by decide) (t := .long) (t' := .long) (by decide +kernel) (by decide +kernel)))).other W289 (Or.inr (slot_ne (Or.inr (own_w hw 21 rfl)) (Or.inr (own_w hw 32 rfl)) (by decide) (t := .long) (t' := .long) (by decide +kernel) (by decide +kernel)))).other W293 (Or.inr (slot_ne (Or.inr (own_w hw 21 rfl)) (Or.inr (own_w hw 34 rfl)) (by decide) (t := .long) (t' := .long) (by decide +kernel) (by decide +kernel)))).other W297 (Or.inr (slot_ne (Or.inr (own_w hw 21 rfl)) (Or.inr (own_w hw 36 rfl)) (by decide) (t := .long) (t' := .long) (by decide +kernel) (by decide +kernel)))).other W301 (Or.inr (slot_ne (Or.inr (own_w hw 21 rfl)) (Or.inr (own_w hw 38 rfl)) (by decide) (t := .long) (t' := .long) (by decide +kernel) (by decide +kernel)))).other W304 (Or.inr (slot_ne (Or.inr (own_w hw 21 rfl)) (Or.inr (own_w hw 40 rfl)) (by decide) (t := .long) (t' := .int) (by decide +kernel) (by decide +kernel)))).other W307 (Or.inr (slot_ne (Or.inr (own_w hw 21 rfl)) (Or.inr (own_w hw 42 rfl)) (by decide) (t := .long) (t' := .int) (by decide +kernel) (by decide +kernel)))).other W311 (Or.inr (slot_ne (Or.inr (own_w hw 21 rfl)) (Or.inr (own_w hw 44 rfl)) (by decide) (t := .long) (t' := .int) (by decide +kernel) (by decide +kernel)))).other W315 (Or.inr (slot_ne (Or.inr (own_w hw 21 rfl)) (Or.inr (own_w hw 46 rfl)) (by decide) (t := .long) (t' := .int) (by decide +kernel) (by decide +kernel)))).other W319 (Or.inr (slot_ne (Or.inr (own_w hw 21 rfl)) (Or.inr (own_w hw 48 rfl)) (by decide) (t := .long) (t' := .int) (by decide +kernel) (by decide +kernel)))).other W327 (Or.inr (slot_ne (Or.inr (own_w hw 21 rfl)) (Or.inr (own_w hw 50 rfl)) (by decide) (t := .long) (t' := .long) (by decide +kernel) (by decide +kernel)))).other W335 (Or.inr (slot_ne (Or.inr (own_w hw 21 rfl)) (Or.inr (own_w hw 52 rfl)) (by decide) (t := .long) (t' := .long) (by decide +kernel) (by decide +kernel)))).other W343 (Or.inr (slot_ne (Or.inr (own_w hw 21 rfl)) (Or.inr (own_w hw 54 rfl)) (by decide) (t := .long) (t' := .long) (by decide +kernel) (by decide +kernel)))).other W351 (Or.inr (slot_ne (Or.inr (own_w hw 21 rfl)) (Or.inr (own_w hw 56 rfl)) (by decide) (t := .long) (t' := .long) (by decide +kernel) (by decide +kernel)))).other W359 (Or.inr (slot_ne (Or.inr (own_w hw 21 rfl)) (Or.inr (own_w hw 58 rfl)) (by decide) (t := .long) (t' := .long) (by decide +kernel) (by decide +kernel))))
      have f363 := ((((((((((((((((((Fw271.ext E273).keep K277 (ninS ne_a1_b273 nin0)).keep K280 (ninS ne_a1_b273 nin0)).other W285 (Or.inr (slot_ne (Or.inr (own_w hw 27 rfl)) (Or.inr (own_w hw 30 rfl)) (by decide) (t := .long) (t' := .long) (by decide +kernel) (by decide +kernel)))).other W289 (Or.inr (slot_ne (Or.inr (own_w hw 27 rfl)) (Or.inr (own_w hw 32 rfl)) (by decide) (t := .long) (t' := .long) (by decide +kernel) (by decide +kernel)))).other W293 (Or.inr (slot_ne (Or.inr (own_w hw 27 rfl)) (Or.inr (own_w hw 34 rfl)) (by decide) (t := .long) (t' := .long) (by decide +kernel) (by decide +kernel)))).other W297 (Or.inr (slot_ne (Or.inr (own_w hw 27 rfl)) (Or.inr (own_w hw 36 rfl)) (by decide) (t := .long) (t' := .long) (by decide +kernel) (by decide +kernel)))).other W301 (Or.inr (slot_ne (Or.inr (own_w hw 27 rfl)) (Or.inr (own_w hw 38 rfl)) (by decide) (t := .long) (t' := .long) (by decide +kernel) (by decide +kernel)))).other W304 (Or.inr (slot_ne (Or.inr (own_w hw 27 rfl)) (Or.inr (own_w hw 40 rfl)) (by decide) (t := .long) (t' := .int) (by decide +kernel) (by decide +kernel)))).other W307 (Or.inr (slot_ne (Or.inr (own_w hw 27 rfl)) (Or.inr (own_w hw 42 rfl)) (by decide) (t := .long) (t' := .int) (by decide +kernel) (by decide +kernel)))).other W311 (Or.inr (slot_ne (Or.inr (own_w hw 27 rfl)) (Or.inr (own_w hw 44 rfl)) (by decide) (t := .long) (t' := .int) (by decide +kernel) (by decide +kernel)))).other W315 (Or.inr (slot_ne (Or.inr (own_w hw 27 rfl)) (Or.inr (own_w hw 46 rfl)) (by decide) (t := .long) (t' := .int) (by decide +kernel) (by decide +kernel)))).other W319 (Or.inr (slot_ne (Or.inr (own_w hw 27 rfl)) (Or.inr (own_w hw 48 rfl)) (by decide) (t := .long) (t' := .int) (by decide +kernel) (by decide +kernel)))).other W327 (Or.inr (slot_ne (Or.inr (own_w hw 27 rfl)) (Or.inr (own_w hw 50 rfl)) (by decide) (t := .long) (t' := .long) (by decide +kernel) (by decide +kernel)))).other W335 (Or.inr (slot_ne (Or.inr (own_w hw 27 rfl)) (Or.inr (own_w hw 52 rfl)) (by decide) (t := .long) (t' := .long) (by decide +kernel) (by decide +kernel)))).other W343 (Or.inr (slot_ne (Or.inr (own_w hw 27 rfl)) (Or.inr (own_w hw 54 rfl)) (by decide) (t := .long) (t' := .long) (by decide +kernel) (by decide +kernel)))).other W351 (Or.inr (slot_ne (Or.inr (own_w hw 27 rfl)) (Or.inr (own_w hw 56 rfl)) (by decide) (t := .long) (t' := .long) (by decide +kernel) (by decide +kernel)))).other W359 (Or.inr (slot_ne (Or.inr (own_w hw 27 rfl)) (Or.inr (own_w hw 58 rfl)) (by decide) (t := .long) (t' := .long) (by decide +kernel) (by decide +kernel))))
      have f364 := (((((((((((((((f281.other W285 (Or.inr (slot_ne (Or.inr (own_w hw 16 rfl)) (Or.inr (own_w hw 30 rfl)) (by decide) (t := .int) (t' := .long) (by decide +kernel) (by decide +kernel)))).other W289 (Or.inr (slot_ne (Or.inr (own_w hw 16 rfl)) (Or.inr (own_w hw 32 rfl)) (by decide) (t := .int) (t' := .long) (by decide +kernel) (by decide +kernel)))).other W293 (Or.inr (slot_ne (Or.inr (own_w hw 16 rfl)) (Or.inr (own_w hw 34 rfl)) (by decide) (t := .int) (t' := .long) (by decide +kernel) (by decide +kernel)))).other W297 (Or.inr (slot_ne (Or.inr (own_w hw 16 rfl)) (Or.inr (own_w hw 36 rfl)) (by decide) (t := .int) (t' := .long) (by decide +kernel) (by decide +kernel)))).other W301 (Or.inr (slot_ne (Or.inr (own_w hw 16 rfl)) (Or.inr (own_w hw 38 rfl)) (by decide) (t := .int) (t' := .long) (by decide +kernel) (by decide +kernel)))).other W304 (Or.inr (slot_ne (Or.inr (own_w hw 16 rfl)) (Or.inr (own_w hw 40 rfl)) (by decide) (t := .int) (t' := .int) (by decide +kernel) (by decide +kernel)))).other W307 (Or.inr (slot_ne (Or.inr (own_w hw 16 rfl)) (Or.inr (own_w hw 42 rfl)) (by decide) (t := .int) (t' := .int) (by decide +kernel) (by decide +kernel)))).other W311 (Or.inr (slot_ne (Or.inr (own_w hw 16 rfl)) (Or.inr (own_w hw 44 rfl)) (by decide) (t := .int) (t' := .int) (by decide +kernel) (by decide +kernel)))).other W315 (Or.inr (slot_ne (Or.inr (own_w hw 16 rfl)) (Or.inr (own_w hw 46 rfl)) (by decide) (t := .int) (t' := .int) (by decide +kernel) (by decide +kernel)))).other W319 (Or.inr (slot_ne (Or.inr (own_w hw 16 rfl)) (Or.inr (own_w hw 48 rfl)) (by decide) (t := .int) (t' := .int) (by decide +kernel) (by decide +kernel)))).other W327 (Or.inr (slot_ne (Or.inr (own_w hw 16 rfl)) (Or.inr (own_w hw 50 rfl)) (by decide) (t := .int) (t' := .long) (by decide +kernel) (by decide +kernel)))).other W335 (Or.inr (slot_ne (Or.inr (own_w hw 16 rfl)) (Or.inr (own_w hw 52 rfl)) (by decide) (t := .int) (t' := .long) (by decide +kernel) (by decide +kernel)))).other W343 (Or.inr (slot_ne (Or.inr (own_w hw 16 rfl)) (Or.inr (own_w hw 54 rfl)) (by decide) (t := .int) (t' := .long) (by decide +kernel) (by decide +kernel)))).other W351 (Or.inr (slot_ne (Or.inr (own_w hw 16 rfl)) (Or.inr (own_w hw 56 rfl)) (by decide) (t := .int) (t' := .long) (by decide +kernel) (by decide +kernel)))).other W359 (Or.inr (slot_ne (Or.inr (own_w hw 16 rfl)) (Or.inr (own_w hw 58 rfl)) (by decide) (t := .int) (t' := .long) (by decide +kernel) (by decide +kernel))))
      have f365 := (((((f321.other W327 (Or.inr (slot_ne (Or.inr (own_w hw 30 rfl)) (Or.inr (own_w hw 50 rfl)) (by decide) (t := .long) (t' := .long) (by decide +kernel) (by decide +kernel)))).other W335 (Or.inr (slot_ne (Or.inr (own_w hw 30 rfl)) (Or.inr (own_w hw 52 rfl)) (by decide) (t := .long) (t' := .long) (by decide +kernel) (by decide +kernel)))).other W343 (Or.inr (slot_ne (Or.inr (own_w hw 30 rfl)) (Or.inr (own_w hw 54 rfl)) (by decide) (t := .long) (t' := .long) (by decide +kernel) (by decide +kernel)))).other W351 (Or.inr (slot_ne (Or.inr (own_w hw 30 rfl)) (Or.inr (own_w hw 56 rfl)) (by decide) (t := .long) (t' := .long) (by decide +kernel) (by decide +kernel)))).other W359 (Or.inr (slot_ne (Or.inr (own_w hw 30 rfl)) (Or.inr (own_w hw 58 rfl)) (by decide) (t := .long) (t' := .long) (by decide +kernel) (by decide +kernel))))
      have f366 := ((((f329.other W335 (Or.inr (slot_ne (Or.inr (own_w hw 32 rfl)) (Or.inr (own_w hw 52 rfl)) (by decide) (t := .long) (t' := .long) (by decide +kernel) (by decide +kernel)))).other W343 (Or.inr (slot_ne (Or.inr (own_w hw 32 rfl)) (Or.inr (own_w hw 54 rfl)) (by decide) (t := .long) (t' := .long) (by decide +kernel) (by decide +kernel)))).other W351 (Or.inr (slot_ne (Or.inr (own_w hw 32 rfl)) (Or.inr (own_w hw 56 rfl)) (by decide) (t := .long) (t' := .long) (by decide +kernel) (by decide +kernel)))).other W359 (Or.inr (slot_ne (Or.inr (own_w hw 32 rfl)) (Or.inr (own_w hw 58 rfl)) (by decide) (t := .long) (t' := .long) (by decide +kernel) (by decide +kernel))))
      have f367 := (((f337.other W343 (Or.inr (slot_ne (Or.inr (own_w hw 34 rfl)) (Or.inr (own_w hw 54 rfl)) (by decide) (t := .long) (t' := .long) (by decide +kernel) (by decide +kernel)))).other W351 (Or.inr (slot_ne (Or.inr (own_w hw 34 rfl)) (Or.inr (own_w hw 56 rfl)) (by decide) (t := .long) (t' := .long) (by decide +kernel) (by decide +kernel)))).other W359 (Or.inr (slot_ne (Or.inr (own_w hw 34 rfl)) (Or.inr (own_w hw 58 rfl)) (by decide) (t := .long) (t' := .long) (by decide +kernel) (by decide +kernel))))
      have f368 := ((f345.other W351 (Or.inr (slot_ne (Or.inr (own_w hw 36 rfl)) (Or.inr (own_w hw 56 rfl)) (by decide) (t := .long) (t' := .long) (by decide +kernel) (by decide +kernel)))).other W359 (Or.inr (slot_ne (Or.inr (own_w hw 36 rfl)) (Or.inr (own_w hw 58 rfl)) (by decide) (t := .long) (t' := .long) (by decide +kernel) (by decide +kernel))))
      have f369 := (f353.other W359 (Or.inr (slot_ne (Or.inr (own_w hw 38 rfl)) (Or.inr (own_w hw 58 rfl)) (by decide) (t := .long) (t' := .long) (by decide +kernel) (by decide +kernel))))
      have f370 := ((((Fw327.other W335 (Or.inr (slot_ne (Or.inr (own_w hw 50 rfl)) (Or.inr (own_w hw 52 rfl)) (by decide) (t := .long) (t' := .long) (by decide +kernel) (by decide +kernel)))).other W343 (Or.inr (slot_ne (Or.inr (own_w hw 50 rfl)) (Or.inr (own_w hw 54 rfl)) (by decide) (t := .long) (t' := .long) (by decide +kernel) (by decide +kernel)))).other W351 (Or.inr (slot_ne (Or.inr (own_w hw 50 rfl)) (Or.inr (own_w hw 56 rfl)) (by decide) (t := .long) (t' := .long) (by decide +kernel) (by decide +kernel)))).other W359 (Or.inr (slot_ne (Or.inr (own_w hw 50 rfl)) (Or.inr (own_w hw 58 rfl)) (by decide) (t := .long) (t' := .long) (by decide +kernel) (by decide +kernel))))
      have f371 := (((Fw335.other W343 (Or.inr (slot_ne (Or.inr (own_w hw 52 rfl)) (Or.inr (own_w hw 54 rfl)) (by decide) (t := .long) (t' := .long) (by decide +kernel) (by decide +kernel)))).other W351 (Or.inr (slot_ne (Or.inr (own_w hw 52 rfl)) (Or.inr (own_w hw 56 rfl)) (by decide) (t := .long) (t' := .long) (by decide +kernel) (by decide +kernel)))).other W359 (Or.inr (slot_ne (Or.inr (own_w hw 52 rfl)) (Or.inr (own_w hw 58 rfl)) (by decide) (t := .long) (t' := .long) (by decide +kernel) (by decide +kernel))))
      have f372 := ((Fw343.other W351 (Or.inr (slot_ne (Or.inr (own_w hw 54 rfl)) (Or.inr (own_w hw 56 rfl)) (by decide) (t := .long) (t' := .long) (by decide +kernel) (by decide +kernel)))).other W359 (Or.inr (slot_ne (Or.inr (own_w hw 54 rfl)) (Or.inr (own_w hw 58 rfl)) (by decide) (t := .long) (t' := .long) (by decide +kernel) (by decide +kernel))))
      have f373 := (Fw351.other W359 (Or.inr (slot_ne (Or.inr (own_w hw 56 rfl)) (Or.inr (own_w hw 58 rfl)) (by decide) (t := .long) (t' := .long) (by decide +kernel) (by decide +kernel))))
      have f374 := (((((f323.other W327 (Or.inr (slot_ne (Or.inr (own_w hw 40 rfl)) (Or.inr (own_w hw 50 rfl)) (by decide) (t := .int) (t' := .long) (by decide +kernel) (by decide +kernel)))).other W335 (Or.inr (slot_ne (Or.inr (own_w hw 40 rfl)) (Or.inr (own_w hw 52 rfl)) (by decide) (t := .int) (t' := .long) (by decide +kernel) (by decide +kernel)))).other W343 (Or.inr (slot_ne (Or.inr (own_w hw 40 rfl)) (Or.inr (own_w hw 54 rfl)) (by decide) (t := .int) (t' := .long) (by decide +kernel) (by decide +kernel)))).other W351 (Or.inr (slot_ne (Or.inr (own_w hw 40 rfl)) (Or.inr (own_w hw 56 rfl)) (by decide) (t := .int) (t' := .long) (by decide +kernel) (by decide +kernel)))).other W359 (Or.inr (slot_ne (Or.inr (own_w hw 40 rfl)) (Or.inr (own_w hw 58 rfl)) (by decide) (t := .int) (t' := .long) (by decide +kernel) (by decide +kernel))))
      have f375 := ((((f331.other W335 (Or.inr (slot_ne (Or.inr (own_w hw 42 rfl)) (Or.inr (own_w hw 52 rfl)) (by decide) (t := .int) (t' := .long) (by decide +kernel) (by decide +kernel)))).other W343 (Or.inr (slot_ne (Or.inr (own_w hw 42 rfl)) (Or.inr (own_w hw 54 rfl)) (by decide) (t := .int) (t' := .long) (by decide +kernel) (by decide +kernel)))).other W351 (Or.inr (slot_ne (Or.inr (own_w hw 42 rfl)) (Or.inr (own_w hw 56 rfl)) (by decide) (t := .int) (t' := .long) (by decide +kernel) (by decide +kernel)))).other W359 (Or.inr (slot_ne (Or.inr (own_w hw 42 rfl)) (Or.inr (own_w hw 58 rfl)) (by decide) (t := .int) (t' := .long) (by decide +kernel) (by decide +kernel))))
      have f376 := (((f339.other W343 (Or.inr (slot_ne (Or.inr (own_w hw 44 rfl)) (Or.inr (own_w hw 54 rfl)) (by decide) (t := .int) (t' := .long) (by decide +kernel) (by decide +kernel)))).other W351 (Or.inr (slot_ne (Or.inr (own_w hw 44 rfl)) (Or.inr (own_w hw 56 rfl)) (by decide) (t := .int) (t' := .long) (by decide +kernel) (by decide +kernel)))).other W359 (Or.inr (slot_ne (Or.inr (own_w hw 44 rfl)) (Or.inr (own_w hw 58 rfl)) (by decide) (t := .int) (t' := .long) (by decide +kernel) (by decide +kernel))))
      have f377 := ((f347.other W351 (Or.inr (slot_ne (Or.inr (own_w hw 46 rfl)) (Or.inr (own_w hw 56 rfl)) (by decide) (t := .int) (t' := .long) (by decide +kernel) (by decide +kernel)))).other W359 (Or.inr (slot_ne (Or.inr (own_w hw 46 rfl)) (Or.inr (own_w hw 58 rfl)) (by decide) (t := .int) (t' := .long) (by decide +kernel) (by decide +kernel))))
      have f378 := (f355.other W359 (Or.inr (slot_ne (Or.inr (own_w hw 48 rfl)) (Or.inr (own_w hw 58 rfl)) (by decide) (t := .int) (t' := .long) (by decide +kernel) (by decide +kernel))))
      have f379 := (f358.wr W359)
      refine own_ret0 X359 hx hlk hret (hb hby d1_339) (by decide) (by decide) ?_
      rw [e359]
      have hlow : ∀ x, own_bit v272 x = decide (x < nn * wn) := by rw [hv272]; exact own_wbq _ _ (by rw [hv267]; exact own_mulN hN hW (by omega)) (by have := Nat.mul_le_mul hn1 hw1; omega) hcn
      have hd0 : v2.toBitVec.toNat % 64 = 2 ^ 0 * (pn - wn) := by have q := own_shq _ _ hG; have lt0 := (own_dlt hsp hw1 (hRP.2.2 0 (by decide))); show v2.toBitVec.toNat % 64 = 2 ^ 0 * (pn - wn); rw [q]; omega
      have hd1 : v308.toBitVec.toNat % 64 = 2 ^ 1 * (pn - wn) := by rw [hv308]; exact own_dist _ _ 1 _ (by decide) (by decide) hG (own_dlt hsp hw1 (hRP.2.2 1 (by decide)))
      have hWM : own_WM wn pn nn 2 vS v272 (own_5 mv277 mv280 (0 : Int64) (0 : Int64) (0 : Int64)) (own_5 v328 v336 v344 v352 v360) (own_5 v2 v308 v312 v316 v320) := by
        refine ⟨hRP, hUS, hlow, fun r hr => ?_⟩
        rcases (show r = 0 ∨ r = 1 by omega) with rfl | rfl
        · exact ⟨hU277, hv328, hd0⟩
        · exact ⟨hU280, hv336, hd1⟩
      exact ⟨2, _, _, _, _, _, _, _, _, _, _, _, _, _, _, _, _, _, _, by decide, hWM, rfl, N359, K359, f379, f361, f362, f363, f364, f365, f366, f367, f368, f369, f370, f371, f372, f373, Fw359, f374, f375, f376, f377, f378⟩
    · obtain rfl : jr = (3 : Int32) := Int32.toInt_inj.mp (hRR.trans (by decide))
      show own_WP _ _ _ _ _ _ _ (T4.setTop (mkF m 29 #[.val (.ref a1), .val (.int st), .val (.int w), .val (.int p'), .val (.int n'), .val (.int v2), .unset, .unset, .unset, .unset, .unset, .unset, .unset, .unset] [(.int (3 : Int32)), (.ref a1)]))
      refine own_putF (pc' := 32) X4 hx hZ hown (host := "") (Or.inl (own_w hw 15 rfl)) Via.refl e4 F_rounds E1 (Or.inr ⟨(own_w hw 16 rfl), rfl, hnm⟩) (own_w hw 2 rfl) (ty := .int) (by decide) rfl rfl (hb hby d1_29) rfl ?_
      intro T380 h380 X380 e380 W380
      have z380 : n0 ≤ h380.size := Nat.le_trans Z0 (Keep.of_wr W380).1
      have Fw380 := F_rounds.same W380
      have N380 := Fr.snoc X380 N4 g_a1
      have K380 : Keep h0 h380 [a1] := (Keep.refl h0 [a1]).wr W380 (Or.inl (List.mem_of_getElem? (i := 0) rfl))
      refine own_ldc2Long (pc' := 35) X380 hx hZ hown (own_w hw 17 rfl) (hb hby d1_32) rfl ?_
      refine own_bipush (pc' := 37) X380 hx (64 : Int32) (hb hby d1_35) rfl rfl ?_
      refine own_iloadN (pc' := 38) X380 hx (hb hby d1_37) rfl rfl ?_
      refine own_isub (pc' := 39) X380 hx (hb hby d1_38) rfl ?_
      refine own_lushr (pc' := 40) X380 hx (hb hby d1_39) rfl ?_
      obtain ⟨v381, hv381⟩ : ∃ z : Int64, z = (((-1 : Int64).toUInt64 >>> (((64 : Int32) - w) &&& 0x3f).toInt64.toUInt64).toInt64) := ⟨_, rfl⟩
      refine own_lstore (pc' := 42) (l' := #[.val (.ref a1), .val (.int st), .val (.int w), .val (.int p'), .val (.int n'), .val (.int v2), .val (.long v381), .second, .unset, .unset, .unset, .unset, .unset, .unset]) X380 hx (hb hby d1_40) hv381 rfl rfl ?_
      refine own_lconst0 (pc' := 43) X380 hx (hb hby d1_42) rfl ?_
      refine own_lstore (pc' := 45) (l' := #[.val (.ref a1), .val (.int st), .val (.int w), .val (.int p'), .val (.int n'), .val (.int v2), .val (.long v381), .second, .val (.long (0 : Int64)), .second, .unset, .unset, .unset, .unset]) X380 hx (hb hby d1_43) rfl rfl rfl ?_
      refine own_iconst (pc' := 46) X380 hx (0 : Int32) (hb hby d1_45) rfl rfl ?_
      refine own_istore (pc' := 48) (l' := #[.val (.ref a1), .val (.int st), .val (.int w), .val (.int p'), .val (.int n'), .val (.int v2), .val (.long v381), .second, .val (.long (0 : Int64)), .second, .val (.int (0 : Int32)), .unset, .unset, .unset]) X380 hx (hb hby d1_46) rfl rfl rfl ?_
      have hwb : ∀ x, own_bit v381 x = decide (x < wn) := by rw [hv381]; exact own_wbq w wn hW hw1 (by omega)
      refine lpS hw hx hby hml hown hZ X380 a1 st w p' n' v2 v381 wn pn nn hW hP hN hw1 hwp hsp hwb (fun vS runS hUS => ?_) _ 0 0 0 rfl (Nat.zero_le _) (by decide) (own_Up0 _ _ _ _)
      show own_WP _ _ _ _ _ _ _ (T380.setTop (mkF m 73 #[.val (.ref a1), .val (.int st), .val (.int w), .val (.int p'), .val (.int n'), .val (.int v2), .val (.long v381), .second, .val (.long vS), .second, .val (.int runS), .unset, .unset, .unset] []))
      refine own_aloadN (pc' := 74) X380 hx (hb hby d1_73) rfl rfl rfl ?_
      refine own_iloadN (pc' := 75) X380 hx (hb hby d1_74) rfl rfl ?_
      have f382 := (F_start.other W380 (Or.inr (slot_ne (Or.inr (own_w hw 19 rfl)) (Or.inr (own_w hw 16 rfl)) (by decide) (t := .int) (t' := .int) (by decide +kernel) (by decide +kernel))))
      have f383 := (E1.wr W380)
      refine own_putF (pc' := 78) X380 hx hZ hown (host := "") (Or.inl (own_w hw 18 rfl)) Via.refl e380 f382 f383 (Or.inr ⟨(own_w hw 19 rfl), rfl, hnm⟩) (own_w hw 2 rfl) (ty := .int) (by decide) rfl rfl (hb hby d1_75) rfl ?_
      intro T384 h384 X384 e384 W384
      have z384 : n0 ≤ h384.size := Nat.le_trans z380 (Keep.of_wr W384).1
      have Fw384 := f382.same W384
      have N384 := Fr.snoc X384 N380 g_a1
      have K384 : Keep h0 h384 [a1] := K380.wr W384 (Or.inl (List.mem_of_getElem? (i := 0) rfl))
      refine own_aloadN (pc' := 79) X384 hx (hb hby d1_78) rfl rfl rfl ?_
      refine own_lload (pc' := 81) X384 hx (hb hby d1_79) rfl rfl ?_
      have f385 := ((F_runs.other W380 (Or.inr (slot_ne (Or.inr (own_w hw 21 rfl)) (Or.inr (own_w hw 16 rfl)) (by decide) (t := .long) (t' := .int) (by decide +kernel) (by decide +kernel)))).other W384 (Or.inr (slot_ne (Or.inr (own_w hw 21 rfl)) (Or.inr (own_w hw 19 rfl)) (by decide) (t := .long) (t' := .int) (by decide +kernel) (by decide +kernel))))
      have f386 := (f383.wr W384)
      refine own_putF (pc' := 84) X384 hx hZ hown (host := "") (Or.inl (own_w hw 20 rfl)) Via.refl e384 f385 f386 (Or.inr ⟨(own_w hw 21 rfl), rfl, hnm⟩) (own_w hw 2 rfl) (ty := .long) (by decide) rfl rfl (hb hby d1_81) rfl ?_
      intro T387 h387 X387 e387 W387
      have z387 : n0 ≤ h387.size := Nat.le_trans z384 (Keep.of_wr W387).1
      have Fw387 := f385.same W387
      have N387 := Fr.snoc X387 N384 g_a1
      have K387 : Keep h0 h387 [a1] := K384.wr W387 (Or.inl (List.mem_of_getElem? (i := 0) rfl))
      refine own_aloadN (pc' := 85) X387 hx (hb hby d1_84) rfl rfl rfl ?_
      refine own_lload (pc' := 87) X387 hx (hb hby d1_85) rfl rfl ?_
      refine own_iloadN (pc' := 88) X387 hx (hb hby d1_87) rfl rfl ?_
      refine own_lshl (pc' := 89) X387 hx (hb hby d1_88) rfl ?_
      have f388 := (((F_mask.other W380 (Or.inr (slot_ne (Or.inr (own_w hw 23 rfl)) (Or.inr (own_w hw 16 rfl)) (by decide) (t := .long) (t' := .int) (by decide +kernel) (by decide +kernel)))).other W384 (Or.inr (slot_ne (Or.inr (own_w hw 23 rfl)) (Or.inr (own_w hw 19 rfl)) (by decide) (t := .long) (t' := .int) (by decide +kernel) (by decide +kernel)))).other W387 (Or.inr (slot_ne (Or.inr (own_w hw 23 rfl)) (Or.inr (own_w hw 21 rfl)) (by decide) (t := .long) (t' := .long) (by decide +kernel) (by decide +kernel))))
      have f389 := (f386.wr W387)
      obtain ⟨v391, hv391⟩ : ∃ z : Int64, z = (vS <<< (st &&& 0x3f).toInt64) := ⟨_, rfl⟩
      rw [← hv391]
      refine own_putF (pc' := 92) X387 hx hZ hown (host := "") (Or.inl (own_w hw 22 rfl)) Via.refl e387 f388 f389 (Or.inr ⟨(own_w hw 23 rfl), rfl, hnm⟩) (own_w hw 2 rfl) (ty := .long) (by decide) rfl rfl (hb hby d1_89) rfl ?_
      intro T390 h390 X390 e390 W390
      have z390 : n0 ≤ h390.size := Nat.le_trans z387 (Keep.of_wr W390).1
      have Fw390 := f388.same W390
      have N390 := Fr.snoc X390 N387 g_a1
      have K390 : Keep h0 h390 [a1] := K387.wr W390 (Or.inl (List.mem_of_getElem? (i := 0) rfl))
      refine own_aloadN (pc' := 93) X390 hx (hb hby d1_92) rfl rfl rfl ?_
      refine own_iload (pc' := 95) X390 hx (hb hby d1_93) rfl rfl ?_
      refine own_iloadN (pc' := 96) X390 hx (hb hby d1_95) rfl rfl ?_
      refine own_imul (pc' := 97) X390 hx (hb hby d1_96) rfl ?_
      have f392 := ((((F_count.other W380 (Or.inr (slot_ne (Or.inr (own_w hw 25 rfl)) (Or.inr (own_w hw 16 rfl)) (by decide) (t := .int) (t' := .int) (by decide +kernel) (by decide +kernel)))).other W384 (Or.inr (slot_ne (Or.inr (own_w hw 25 rfl)) (Or.inr (own_w hw 19 rfl)) (by decide) (t := .int) (t' := .int) (by decide +kernel) (by decide +kernel)))).other W387 (Or.inr (slot_ne (Or.inr (own_w hw 25 rfl)) (Or.inr (own_w hw 21 rfl)) (by decide) (t := .int) (t' := .long) (by decide +kernel) (by decide +kernel)))).other W390 (Or.inr (slot_ne (Or.inr (own_w hw 25 rfl)) (Or.inr (own_w hw 23 rfl)) (by decide) (t := .int) (t' := .long) (by decide +kernel) (by decide +kernel))))
      have f393 := (f389.wr W390)
      obtain ⟨v395, hv395⟩ : ∃ z : Int32, z = (n' * w) := ⟨_, rfl⟩
      rw [← hv395]
      refine own_putF (pc' := 100) X390 hx hZ hown (host := "") (Or.inl (own_w hw 24 rfl)) Via.refl e390 f392 f393 (Or.inr ⟨(own_w hw 25 rfl), rfl, hnm⟩) (own_w hw 2 rfl) (ty := .int) (by decide) rfl rfl (hb hby d1_97) rfl ?_
      intro T394 h394 X394 e394 W394
      have z394 : n0 ≤ h394.size := Nat.le_trans z390 (Keep.of_wr W394).1
      have Fw394 := f392.same W394
      have N394 := Fr.snoc X394 N390 g_a1
      have K394 : Keep h0 h394 [a1] := K390.wr W394 (Or.inl (List.mem_of_getElem? (i := 0) rfl))
      refine own_aloadN (pc' := 101) X394 hx (hb hby d1_100) rfl rfl rfl ?_
      refine own_ldc2Long (pc' := 104) X394 hx hZ hown (own_w hw 17 rfl) (hb hby d1_101) rfl ?_
      refine own_bipush (pc' := 106) X394 hx (64 : Int32) (hb hby d1_104) rfl rfl ?_
      refine own_aloadN (pc' := 107) X394 hx (hb hby d1_106) rfl rfl rfl ?_
      refine own_getF (pc' := 110) X394 hx hZ hown (host := "") (Or.inl (own_w hw 24 rfl)) Via.refl e394 Fw394 (hb hby d1_107) rfl ?_
      intro T396 X396 e396
      refine own_isub (pc' := 111) X396 hx (hb hby d1_110) rfl ?_
      refine own_lushr (pc' := 112) X396 hx (hb hby d1_111) rfl ?_
      have f397 := (((((F_low.other W380 (Or.inr (slot_ne (Or.inr (own_w hw 27 rfl)) (Or.inr (own_w hw 16 rfl)) (by decide) (t := .long) (t' := .int) (by decide +kernel) (by decide +kernel)))).other W384 (Or.inr (slot_ne (Or.inr (own_w hw 27 rfl)) (Or.inr (own_w hw 19 rfl)) (by decide) (t := .long) (t' := .int) (by decide +kernel) (by decide +kernel)))).other W387 (Or.inr (slot_ne (Or.inr (own_w hw 27 rfl)) (Or.inr (own_w hw 21 rfl)) (by decide) (t := .long) (t' := .long) (by decide +kernel) (by decide +kernel)))).other W390 (Or.inr (slot_ne (Or.inr (own_w hw 27 rfl)) (Or.inr (own_w hw 23 rfl)) (by decide) (t := .long) (t' := .long) (by decide +kernel) (by decide +kernel)))).other W394 (Or.inr (slot_ne (Or.inr (own_w hw 27 rfl)) (Or.inr (own_w hw 25 rfl)) (by decide) (t := .long) (t' := .int) (by decide +kernel) (by decide +kernel))))
      have f398 := (f393.wr W394)
      obtain ⟨v400, hv400⟩ : ∃ z : Int64, z = (((-1 : Int64).toUInt64 >>> (((64 : Int32) - v395) &&& 0x3f).toInt64.toUInt64).toInt64) := ⟨_, rfl⟩
      rw [← hv400]
      refine own_putF (pc' := 115) X396 hx hZ hown (host := "") (Or.inl (own_w hw 26 rfl)) Via.refl e396 f397 f398 (Or.inr ⟨(own_w hw 27 rfl), rfl, hnm⟩) (own_w hw 2 rfl) (ty := .long) (by decide) rfl rfl (hb hby d1_112) rfl ?_
      intro T399 h399 X399 e399 W399
      have z399 : n0 ≤ h399.size := Nat.le_trans z394 (Keep.of_wr W399).1
      have Fw399 := f397.same W399
      have N399 := Fr.snoc X399 N394 g_a1
      have K399 : Keep h0 h399 [a1] := K394.wr W399 (Or.inl (List.mem_of_getElem? (i := 0) rfl))
      refine own_iconst (pc' := 116) X399 hx (5 : Int32) (hb hby d1_115) rfl rfl ?_
      refine own_newP (pc' := 118) (cap := 5) X399 hx hZ (own_w hw 28 rfl) e399 (hb hby d1_116) (by decide) (by decide) (by decide) (by decide) (by decide) rfl ?_
      intro T401 h401 k401 b401 g401 X401 e401 E401 A401
      have f402 := (f398.wr W399)
      have ne_a1_b401 : a1 ≠ b401 := Nat.ne_of_lt (Nat.lt_of_lt_of_le f402.lt (Nat.le_of_eq g401.symm))
      have ne_b401_a1 := ne_a1_b401.symm
      have g_b401 : n0 ≤ b401 := Nat.le_trans z399 (Nat.le_of_eq g401.symm)
      have sz_b401 : h0.size ≤ b401 := Nat.le_trans K399.1 (Nat.le_of_eq g401.symm)
      have z401 : n0 ≤ h401.size := Nat.le_trans z399 E401.1
      have K401 : Keep h0 h401 [a1] := K399.ext E401
      have V401 : Arv Z h401 b401 k401 .long (5 : Int32) [(.long (0 : Int64)), (.long (0 : Int64)), (.long (0 : Int64)), (.long (0 : Int64)), (.long (0 : Int64))] (.long (0 : Int64)) := (Arv.new A401 (by decide)).pad (pad_rep [] (.long (0 : Int64)) 5)
      refine own_astore (pc' := 120) (l' := #[.val (.ref a1), .val (.int st), .val (.int w), .val (.int p'), .val (.int n'), .val (.int v2), .val (.long v381), .second, .val (.long vS), .second, .val (.ref b401), .unset, .unset, .unset]) X401 hx (hb hby d1_118) rfl rfl rfl ?_
      refine own_iconst (pc' := 121) X401 hx (0 : Int32) (hb hby d1_120) rfl rfl ?_
      refine own_istore (pc' := 123) (l' := #[.val (.ref a1), .val (.int st), .val (.int w), .val (.int p'), .val (.int n'), .val (.int v2), .val (.long v381), .second, .val (.long vS), .second, .val (.ref b401), .val (.int (0 : Int32)), .unset, .unset]) X401 hx (hb hby d1_121) rfl rfl rfl ?_
      refine own_iload (pc' := 125) X401 hx (hb hby d1_123) rfl rfl ?_
      refine own_aloadN (pc' := 126) X401 hx (hb hby d1_125) rfl rfl rfl ?_
      have f403 := ((((((Fw380.other W384 (Or.inr (slot_ne (Or.inr (own_w hw 16 rfl)) (Or.inr (own_w hw 19 rfl)) (by decide) (t := .int) (t' := .int) (by decide +kernel) (by decide +kernel)))).other W387 (Or.inr (slot_ne (Or.inr (own_w hw 16 rfl)) (Or.inr (own_w hw 21 rfl)) (by decide) (t := .int) (t' := .long) (by decide +kernel) (by decide +kernel)))).other W390 (Or.inr (slot_ne (Or.inr (own_w hw 16 rfl)) (Or.inr (own_w hw 23 rfl)) (by decide) (t := .int) (t' := .long) (by decide +kernel) (by decide +kernel)))).other W394 (Or.inr (slot_ne (Or.inr (own_w hw 16 rfl)) (Or.inr (own_w hw 25 rfl)) (by decide) (t := .int) (t' := .int) (by decide +kernel) (by decide +kernel)))).other W399 (Or.inr (slot_ne (Or.inr (own_w hw 16 rfl)) (Or.inr (own_w hw 27 rfl)) (by decide) (t := .int) (t' := .long) (by decide +kernel) (by decide +kernel)))).ext E401)
      refine own_getF (pc' := 129) X401 hx hZ hown (host := "") (Or.inl (own_w hw 15 rfl)) Via.refl e401 f403 (hb hby d1_126) rfl ?_
      intro T404 X404 e404
      refine own_icmp_ge (pt := 196) (pf := 132) X404 hx (hb hby d1_129) rfl (by decide) rfl (fun hc129 => absurd (by decide) hc129) (fun hc129 => ?_)
      refine own_iconst (pc' := 133) X404 hx (0 : Int32) (hb hby d1_132) rfl rfl ?_
      refine own_istore (pc' := 135) (l' := #[.val (.ref a1), .val (.int st), .val (.int w), .val (.int p'), .val (.int n'), .val (.int v2), .val (.long v381), .second, .val (.long vS), .second, .val (.ref b401), .val (.int (0 : Int32)), .val (.int (0 : Int32)), .unset]) X404 hx (hb hby d1_133) rfl rfl rfl ?_
      refine lpI hw hx hby hml hown hZ a1 st w p' n' v2 v381 wn pn nn hW hP hN hw1 hwp hsp hwb (pn - wn) hG hg vS b401 (0 : Int32) 0 (by decide) (by decide) k401 [(.long (0 : Int64)), (.long (0 : Int64)), (.long (0 : Int64)), (.long (0 : Int64)), (.long (0 : Int64))] rfl h401 g_b401 (fun T405 h405 L405 run405 mv405 sl405 X405 e405 N405 K405 V405 hU405 hsl405 => ?_) _ T404 h401 _ 0 0 .unset 0 rfl (Nat.zero_le _) (by decide) X404 e404 N399 (Keep.refl _ _) V401 (own_Up0 _ _ _ _) (Or.inl rfl)
      have z405 : n0 ≤ h405.size := Nat.le_trans z401 K405.1
      have KK405 : Keep h0 h405 [a1] := K401.trans K405 (allS (Or.inr sz_b401) all0)
      have V405 : Arv Z h405 b401 k401 .long 5 [(.long mv405), (.long (0 : Int64)), (.long (0 : Int64)), (.long (0 : Int64)), (.long (0 : Int64))] (.long 0) := V405
      show own_WP _ _ _ _ _ _ _ (T405.setTop (mkF m 190 #[.val (.ref a1), .val (.int st), .val (.int w), .val (.int p'), .val (.int n'), .val (.int v2), .val (.long v381), .second, .val (.long vS), .second, .val (.ref b401), .val (.int (0 : Int32)), .val (.int run405), sl405] []))
      refine own_iinc (pc' := 193) (l' := #[.val (.ref a1), .val (.int st), .val (.int w), .val (.int p'), .val (.int n'), .val (.int v2), .val (.long v381), .second, .val (.long vS), .second, .val (.ref b401), .val (.int (1 : Int32)), .val (.int run405), sl405]) X405 hx (hb hby d1_190) rfl (by decide) rfl rfl ?_
      refine own_goto (pc' := 123) X405 hx (hb hby d1_193) (by decide) rfl ?_
      refine own_iload (pc' := 125) X405 hx (hb hby d1_123) rfl rfl ?_
      refine own_aloadN (pc' := 126) X405 hx (hb hby d1_125) rfl rfl rfl ?_
      have f406 := (f403.keep K405 (ninS ne_a1_b401 nin0))
      refine own_getF (pc' := 129) X405 hx hZ hown (host := "") (Or.inl (own_w hw 15 rfl)) Via.refl e405 f406 (hb hby d1_126) rfl ?_
      intro T407 X407 e407
      refine own_icmp_ge (pt := 196) (pf := 132) X407 hx (hb hby d1_129) rfl (by decide) rfl (fun hc129_1 => absurd (by decide) hc129_1) (fun hc129_1 => ?_)
      refine own_iconst (pc' := 133) X407 hx (0 : Int32) (hb hby d1_132) rfl rfl ?_
      refine own_istore (pc' := 135) (l' := #[.val (.ref a1), .val (.int st), .val (.int w), .val (.int p'), .val (.int n'), .val (.int v2), .val (.long v381), .second, .val (.long vS), .second, .val (.ref b401), .val (.int (1 : Int32)), .val (.int (0 : Int32)), sl405]) X407 hx (hb hby d1_133) rfl rfl rfl ?_
      refine lpI hw hx hby hml hown hZ a1 st w p' n' v2 v381 wn pn nn hW hP hN hw1 hwp hsp hwb (pn - wn) hG hg vS b401 (1 : Int32) 1 (by decide) (by decide) k401 [(.long mv405), (.long (0 : Int64)), (.long (0 : Int64)), (.long (0 : Int64)), (.long (0 : Int64))] rfl h405 g_b401 (fun T408 h408 L408 run408 mv408 sl408 X408 e408 N408 K408 V408 hU408 hsl408 => ?_) _ T407 h405 _ 0 0 sl405 0 rfl (Nat.zero_le _) (by decide) X407 e407 N405 (Keep.refl _ _) V405 (own_Up0 _ _ _ _) hsl405
      have z408 : n0 ≤ h408.size := Nat.le_trans z405 K408.1
      have KK408 : Keep h0 h408 [a1] := KK405.trans K408 (allS (Or.inr sz_b401) all0)
      have V408 : Arv Z h408 b401 k401 .long 5 [(.long mv405), (.long mv408), (.long (0 : Int64)), (.long (0 : Int64)), (.long (0 : Int64))] (.long 0) := V408
      show own_WP _ _ _ _ _ _ _ (T408.setTop (mkF m 190 #[.val (.ref a1), .val (.int st), .val (.int w), .val (.int p'), .val (.int n'), .val (.int v2), .val (.long v381), .second, .val (.long vS), .second, .val (.ref b401), .val (.int (1 : Int32)), .val (.int run408), sl408] []))
      refine own_iinc (pc' := 193) (l' := #[.val (.ref a1), .val (.int st), .val (.int w), .val (.int p'), .val (.int n'), .val (.int v2), .val (.long v381), .second, .val (.long vS), .second, .val (.ref b401), .val (.int (2 : Int32)), .val (.int run408), sl408]) X408 hx (hb hby d1_190) rfl (by decide) rfl rfl ?_
      refine own_goto (pc' := 123) X408 hx (hb hby d1_193) (by decide) rfl ?_
      refine own_iload (pc' := 125) X408 hx (hb hby d1_123) rfl rfl ?_
      refine own_aloadN (pc' := 126) X408 hx (hb hby d1_125) rfl rfl rfl ?_
      have f409 := (f406.keep K408 (ninS ne_a1_b401 nin0))
      refine own_getF (pc' := 129) X408 hx hZ hown (host := "") (Or.inl (own_w hw 15 rfl)) Via.refl e408 f409 (hb hby d1_126) rfl ?_
      intro T410 X410 e410
      refine own_icmp_ge (pt := 196) (pf := 132) X410 hx (hb hby d1_129) rfl (by decide) rfl (fun hc129_2 => absurd (by decide) hc129_2) (fun hc129_2 => ?_)
      refine own_iconst (pc' := 133) X410 hx (0 : Int32) (hb hby d1_132) rfl rfl ?_
      refine own_istore (pc' := 135) (l' := #[.val (.ref a1), .val (.int st), .val (.int w), .val (.int p'), .val (.int n'), .val (.int v2), .val (.long v381), .second, .val (.long vS), .second, .val (.ref b401), .val (.int (2 : Int32)), .val (.int (0 : Int32)), sl408]) X410 hx (hb hby d1_133) rfl rfl rfl ?_
      refine lpI hw hx hby hml hown hZ a1 st w p' n' v2 v381 wn pn nn hW hP hN hw1 hwp hsp hwb (pn - wn) hG hg vS b401 (2 : Int32) 2 (by decide) (by decide) k401 [(.long mv405), (.long mv408), (.long (0 : Int64)), (.long (0 : Int64)), (.long (0 : Int64))] rfl h408 g_b401 (fun T411 h411 L411 run411 mv411 sl411 X411 e411 N411 K411 V411 hU411 hsl411 => ?_) _ T410 h408 _ 0 0 sl408 0 rfl (Nat.zero_le _) (by decide) X410 e410 N408 (Keep.refl _ _) V408 (own_Up0 _ _ _ _) hsl408
      have z411 : n0 ≤ h411.size := Nat.le_trans z408 K411.1
      have KK411 : Keep h0 h411 [a1] := KK408.trans K411 (allS (Or.inr sz_b401) all0)
      have V411 : Arv Z h411 b401 k401 .long 5 [(.long mv405), (.long mv408), (.long mv411), (.long (0 : Int64)), (.long (0 : Int64))] (.long 0) := V411
      show own_WP _ _ _ _ _ _ _ (T411.setTop (mkF m 190 #[.val (.ref a1), .val (.int st), .val (.int w), .val (.int p'), .val (.int n'), .val (.int v2), .val (.long v381), .second, .val (.long vS), .second, .val (.ref b401), .val (.int (2 : Int32)), .val (.int run411), sl411] []))
      refine own_iinc (pc' := 193) (l' := #[.val (.ref a1), .val (.int st), .val (.int w), .val (.int p'), .val (.int n'), .val (.int v2), .val (.long v381), .second, .val (.long vS), .second, .val (.ref b401), .val (.int (3 : Int32)), .val (.int run411), sl411]) X411 hx (hb hby d1_190) rfl (by decide) rfl rfl ?_
      refine own_goto (pc' := 123) X411 hx (hb hby d1_193) (by decide) rfl ?_
      refine own_iload (pc' := 125) X411 hx (hb hby d1_123) rfl rfl ?_
      refine own_aloadN (pc' := 126) X411 hx (hb hby d1_125) rfl rfl rfl ?_
      have f412 := (f409.keep K411 (ninS ne_a1_b401 nin0))
      refine own_getF (pc' := 129) X411 hx hZ hown (host := "") (Or.inl (own_w hw 15 rfl)) Via.refl e411 f412 (hb hby d1_126) rfl ?_
      intro T413 X413 e413
      refine own_icmp_ge (pt := 196) (pf := 132) X413 hx (hb hby d1_129) rfl (by decide) rfl (fun hc129_3 => ?_) (fun hc129_3 => absurd hc129_3 (by decide))
      refine own_aloadN (pc' := 197) X413 hx (hb hby d1_196) rfl rfl rfl ?_
      refine own_aload (pc' := 199) X413 hx (hb hby d1_197) rfl rfl rfl ?_
      refine own_iconst (pc' := 200) X413 hx (0 : Int32) (hb hby d1_199) rfl rfl ?_
      refine own_laload (pc' := 201) (v := (.long mv405)) X413 hx hZ e413 V411 ⟨by decide, by decide⟩ rfl (hb hby d1_200) rfl ?_
      have f414 := ((((((((((F_moving0.other W380 (Or.inr (slot_ne (Or.inr (own_w hw 30 rfl)) (Or.inr (own_w hw 16 rfl)) (by decide) (t := .long) (t' := .int) (by decide +kernel) (by decide +kernel)))).other W384 (Or.inr (slot_ne (Or.inr (own_w hw 30 rfl)) (Or.inr (own_w hw 19 rfl)) (by decide) (t := .long) (t' := .int) (by decide +kernel) (by decide +kernel)))).other W387 (Or.inr (slot_ne (Or.inr (own_w hw 30 rfl)) (Or.inr (own_w hw 21 rfl)) (by decide) (t := .long) (t' := .long) (by decide +kernel) (by decide +kernel)))).other W390 (Or.inr (slot_ne (Or.inr (own_w hw 30 rfl)) (Or.inr (own_w hw 23 rfl)) (by decide) (t := .long) (t' := .long) (by decide +kernel) (by decide +kernel)))).other W394 (Or.inr (slot_ne (Or.inr (own_w hw 30 rfl)) (Or.inr (own_w hw 25 rfl)) (by decide) (t := .long) (t' := .int) (by decide +kernel) (by decide +kernel)))).other W399 (Or.inr (slot_ne (Or.inr (own_w hw 30 rfl)) (Or.inr (own_w hw 27 rfl)) (by decide) (t := .long) (t' := .long) (by decide +kernel) (by decide +kernel)))).ext E401).keep K405 (ninS ne_a1_b401 nin0)).keep K408 (ninS ne_a1_b401 nin0)).keep K411 (ninS ne_a1_b401 nin0))
      have f415 := ((((f402.ext E401).keep K405).keep K408).keep K411)
      refine own_putF (pc' := 204) X413 hx hZ hown (host := "") (Or.inl (own_w hw 29 rfl)) Via.refl e413 f414 f415 (Or.inr ⟨(own_w hw 30 rfl), rfl, hnm⟩) (own_w hw 2 rfl) (ty := .long) (by decide) rfl rfl (hb hby d1_201) rfl ?_
      intro T416 h416 X416 e416 W416
      have z416 : n0 ≤ h416.size := Nat.le_trans z411 (Keep.of_wr W416).1
      have Fw416 := f414.same W416
      have N416 := Fr.snoc X416 N411 g_a1
      have K416 : Keep h0 h416 [a1] := KK411.wr W416 (Or.inl (List.mem_of_getElem? (i := 0) rfl))
      refine own_aloadN (pc' := 205) X416 hx (hb hby d1_204) rfl rfl rfl ?_
      refine own_aload (pc' := 207) X416 hx (hb hby d1_205) rfl rfl rfl ?_
      refine own_iconst (pc' := 208) X416 hx (1 : Int32) (hb hby d1_207) rfl rfl ?_
      have f417 := (V411.other W416 ne_b401_a1)
      refine own_laload (pc' := 209) (v := (.long mv408)) X416 hx hZ e416 f417 ⟨by decide, by decide⟩ rfl (hb hby d1_208) rfl ?_
      have f418 := (((((((((((F_moving1.other W380 (Or.inr (slot_ne (Or.inr (own_w hw 32 rfl)) (Or.inr (own_w hw 16 rfl)) (by decide) (t := .long) (t' := .int) (by decide +kernel) (by decide +kernel)))).other W384 (Or.inr (slot_ne (Or.inr (own_w hw 32 rfl)) (Or.inr (own_w hw 19 rfl)) (by decide) (t := .long) (t' := .int) (by decide +kernel) (by decide +kernel)))).other W387 (Or.inr (slot_ne (Or.inr (own_w hw 32 rfl)) (Or.inr (own_w hw 21 rfl)) (by decide) (t := .long) (t' := .long) (by decide +kernel) (by decide +kernel)))).other W390 (Or.inr (slot_ne (Or.inr (own_w hw 32 rfl)) (Or.inr (own_w hw 23 rfl)) (by decide) (t := .long) (t' := .long) (by decide +kernel) (by decide +kernel)))).other W394 (Or.inr (slot_ne (Or.inr (own_w hw 32 rfl)) (Or.inr (own_w hw 25 rfl)) (by decide) (t := .long) (t' := .int) (by decide +kernel) (by decide +kernel)))).other W399 (Or.inr (slot_ne (Or.inr (own_w hw 32 rfl)) (Or.inr (own_w hw 27 rfl)) (by decide) (t := .long) (t' := .long) (by decide +kernel) (by decide +kernel)))).ext E401).keep K405 (ninS ne_a1_b401 nin0)).keep K408 (ninS ne_a1_b401 nin0)).keep K411 (ninS ne_a1_b401 nin0)).other W416 (Or.inr (slot_ne (Or.inr (own_w hw 32 rfl)) (Or.inr (own_w hw 30 rfl)) (by decide) (t := .long) (t' := .long) (by decide +kernel) (by decide +kernel))))
      have f419 := (f415.wr W416)
      refine own_putF (pc' := 212) X416 hx hZ hown (host := "") (Or.inl (own_w hw 31 rfl)) Via.refl e416 f418 f419 (Or.inr ⟨(own_w hw 32 rfl), rfl, hnm⟩) (own_w hw 2 rfl) (ty := .long) (by decide) rfl rfl (hb hby d1_209) rfl ?_
      intro T420 h420 X420 e420 W420
      have z420 : n0 ≤ h420.size := Nat.le_trans z416 (Keep.of_wr W420).1
      have Fw420 := f418.same W420
      have N420 := Fr.snoc X420 N416 g_a1
      have K420 : Keep h0 h420 [a1] := K416.wr W420 (Or.inl (List.mem_of_getElem? (i := 0) rfl))
      refine own_aloadN (pc' := 213) X420 hx (hb hby d1_212) rfl rfl rfl ?_
      refine own_aload (pc' := 215) X420 hx (hb hby d1_213) rfl rfl rfl ?_
      refine own_iconst (pc' := 216) X420 hx (2 : Int32) (hb hby d1_215) rfl rfl ?_
      have f421 := (f417.other W420 ne_b401_a1)
      refine own_laload (pc' := 217) (v := (.long mv411)) X420 hx hZ e420 f421 ⟨by decide, by decide⟩ rfl (hb hby d1_216) rfl ?_
      have f422 := ((((((((((((F_moving2.other W380 (Or.inr (slot_ne (Or.inr (own_w hw 34 rfl)) (Or.inr (own_w hw 16 rfl)) (by decide) (t := .long) (t' := .int) (by decide +kernel) (by decide +kernel)))).other W384 (Or.inr (slot_ne (Or.inr (own_w hw 34 rfl)) (Or.inr (own_w hw 19 rfl)) (by decide) (t := .long) (t' := .int) (by decide +kernel) (by decide +kernel)))).other W387 (Or.inr (slot_ne (Or.inr (own_w hw 34 rfl)) (Or.inr (own_w hw 21 rfl)) (by decide) (t := .long) (t' := .long) (by decide +kernel) (by decide +kernel)))).other W390 (Or.inr (slot_ne (Or.inr (own_w hw 34 rfl)) (Or.inr (own_w hw 23 rfl)) (by decide) (t := .long) (t' := .long) (by decide +kernel) (by decide +kernel)))).other W394 (Or.inr (slot_ne (Or.inr (own_w hw 34 rfl)) (Or.inr (own_w hw 25 rfl)) (by decide) (t := .long) (t' := .int) (by decide +kernel) (by decide +kernel)))).other W399 (Or.inr (slot_ne (Or.inr (own_w hw 34 rfl)) (Or.inr (own_w hw 27 rfl)) (by decide) (t := .long) (t' := .long) (by decide +kernel) (by decide +kernel)))).ext E401).keep K405 (ninS ne_a1_b401 nin0)).keep K408 (ninS ne_a1_b401 nin0)).keep K411 (ninS ne_a1_b401 nin0)).other W416 (Or.inr (slot_ne (Or.inr (own_w hw 34 rfl)) (Or.inr (own_w hw 30 rfl)) (by decide) (t := .long) (t' := .long) (by decide +kernel) (by decide +kernel)))).other W420 (Or.inr (slot_ne (Or.inr (own_w hw 34 rfl)) (Or.inr (own_w hw 32 rfl)) (by decide) (t := .long) (t' := .long) (by decide +kernel) (by decide +kernel))))
      have f423 := (f419.wr W420)
      refine own_putF (pc' := 220) X420 hx hZ hown (host := "") (Or.inl (own_w hw 33 rfl)) Via.refl e420 f422 f423 (Or.inr ⟨(own_w hw 34 rfl), rfl, hnm⟩) (own_w hw 2 rfl) (ty := .long) (by decide) rfl rfl (hb hby d1_217) rfl ?_
      intro T424 h424 X424 e424 W424
      have z424 : n0 ≤ h424.size := Nat.le_trans z420 (Keep.of_wr W424).1
      have Fw424 := f422.same W424
      have N424 := Fr.snoc X424 N420 g_a1
      have K424 : Keep h0 h424 [a1] := K420.wr W424 (Or.inl (List.mem_of_getElem? (i := 0) rfl))
      refine own_aloadN (pc' := 221) X424 hx (hb hby d1_220) rfl rfl rfl ?_
      refine own_aload (pc' := 223) X424 hx (hb hby d1_221) rfl rfl rfl ?_
      refine own_iconst (pc' := 224) X424 hx (3 : Int32) (hb hby d1_223) rfl rfl ?_
      have f425 := (f421.other W424 ne_b401_a1)
      refine own_laload (pc' := 225) (v := (.long (0 : Int64))) X424 hx hZ e424 f425 ⟨by decide, by decide⟩ rfl (hb hby d1_224) rfl ?_
      have f426 := (((((((((((((F_moving3.other W380 (Or.inr (slot_ne (Or.inr (own_w hw 36 rfl)) (Or.inr (own_w hw 16 rfl)) (by decide) (t := .long) (t' := .int) (by decide +kernel) (by decide +kernel)))).other W384 (Or.inr (slot_ne (Or.inr (own_w hw 36 rfl)) (Or.inr (own_w hw 19 rfl)) (by decide) (t := .long) (t' := .int) (by decide +kernel) (by decide +kernel)))).other W387 (Or.inr (slot_ne (Or.inr (own_w hw 36 rfl)) (Or.inr (own_w hw 21 rfl)) (by decide) (t := .long) (t' := .long) (by decide +kernel) (by decide +kernel)))).other W390 (Or.inr (slot_ne (Or.inr (own_w hw 36 rfl)) (Or.inr (own_w hw 23 rfl)) (by decide) (t := .long) (t' := .long) (by decide +kernel) (by decide +kernel)))).other W394 (Or.inr (slot_ne (Or.inr (own_w hw 36 rfl)) (Or.inr (own_w hw 25 rfl)) (by decide) (t := .long) (t' := .int) (by decide +kernel) (by decide +kernel)))).other W399 (Or.inr (slot_ne (Or.inr (own_w hw 36 rfl)) (Or.inr (own_w hw 27 rfl)) (by decide) (t := .long) (t' := .long) (by decide +kernel) (by decide +kernel)))).ext E401).keep K405 (ninS ne_a1_b401 nin0)).keep K408 (ninS ne_a1_b401 nin0)).keep K411 (ninS ne_a1_b401 nin0)).other W416 (Or.inr (slot_ne (Or.inr (own_w hw 36 rfl)) (Or.inr (own_w hw 30 rfl)) (by decide) (t := .long) (t' := .long) (by decide +kernel) (by decide +kernel)))).other W420 (Or.inr (slot_ne (Or.inr (own_w hw 36 rfl)) (Or.inr (own_w hw 32 rfl)) (by decide) (t := .long) (t' := .long) (by decide +kernel) (by decide +kernel)))).other W424 (Or.inr (slot_ne (Or.inr (own_w hw 36 rfl)) (Or.inr (own_w hw 34 rfl)) (by decide) (t := .long) (t' := .long) (by decide +kernel) (by decide +kernel))))
      have f427 := (f423.wr W424)
      refine own_putF (pc' := 228) X424 hx hZ hown (host := "") (Or.inl (own_w hw 35 rfl)) Via.refl e424 f426 f427 (Or.inr ⟨(own_w hw 36 rfl), rfl, hnm⟩) (own_w hw 2 rfl) (ty := .long) (by decide) rfl rfl (hb hby d1_225) rfl ?_
      intro T428 h428 X428 e428 W428
      have z428 : n0 ≤ h428.size := Nat.le_trans z424 (Keep.of_wr W428).1
      have Fw428 := f426.same W428
      have N428 := Fr.snoc X428 N424 g_a1
      have K428 : Keep h0 h428 [a1] := K424.wr W428 (Or.inl (List.mem_of_getElem? (i := 0) rfl))
      refine own_aloadN (pc' := 229) X428 hx (hb hby d1_228) rfl rfl rfl ?_
      refine own_aload (pc' := 231) X428 hx (hb hby d1_229) rfl rfl rfl ?_
      refine own_iconst (pc' := 232) X428 hx (4 : Int32) (hb hby d1_231) rfl rfl ?_
      have f429 := (f425.other W428 ne_b401_a1)
      refine own_laload (pc' := 233) (v := (.long (0 : Int64))) X428 hx hZ e428 f429 ⟨by decide, by decide⟩ rfl (hb hby d1_232) rfl ?_
      have f430 := ((((((((((((((F_moving4.other W380 (Or.inr (slot_ne (Or.inr (own_w hw 38 rfl)) (Or.inr (own_w hw 16 rfl)) (by decide) (t := .long) (t' := .int) (by decide +kernel) (by decide +kernel)))).other W384 (Or.inr (slot_ne (Or.inr (own_w hw 38 rfl)) (Or.inr (own_w hw 19 rfl)) (by decide) (t := .long) (t' := .int) (by decide +kernel) (by decide +kernel)))).other W387 (Or.inr (slot_ne (Or.inr (own_w hw 38 rfl)) (Or.inr (own_w hw 21 rfl)) (by decide) (t := .long) (t' := .long) (by decide +kernel) (by decide +kernel)))).other W390 (Or.inr (slot_ne (Or.inr (own_w hw 38 rfl)) (Or.inr (own_w hw 23 rfl)) (by decide) (t := .long) (t' := .long) (by decide +kernel) (by decide +kernel)))).other W394 (Or.inr (slot_ne (Or.inr (own_w hw 38 rfl)) (Or.inr (own_w hw 25 rfl)) (by decide) (t := .long) (t' := .int) (by decide +kernel) (by decide +kernel)))).other W399 (Or.inr (slot_ne (Or.inr (own_w hw 38 rfl)) (Or.inr (own_w hw 27 rfl)) (by decide) (t := .long) (t' := .long) (by decide +kernel) (by decide +kernel)))).ext E401).keep K405 (ninS ne_a1_b401 nin0)).keep K408 (ninS ne_a1_b401 nin0)).keep K411 (ninS ne_a1_b401 nin0)).other W416 (Or.inr (slot_ne (Or.inr (own_w hw 38 rfl)) (Or.inr (own_w hw 30 rfl)) (by decide) (t := .long) (t' := .long) (by decide +kernel) (by decide +kernel)))).other W420 (Or.inr (slot_ne (Or.inr (own_w hw 38 rfl)) (Or.inr (own_w hw 32 rfl)) (by decide) (t := .long) (t' := .long) (by decide +kernel) (by decide +kernel)))).other W424 (Or.inr (slot_ne (Or.inr (own_w hw 38 rfl)) (Or.inr (own_w hw 34 rfl)) (by decide) (t := .long) (t' := .long) (by decide +kernel) (by decide +kernel)))).other W428 (Or.inr (slot_ne (Or.inr (own_w hw 38 rfl)) (Or.inr (own_w hw 36 rfl)) (by decide) (t := .long) (t' := .long) (by decide +kernel) (by decide +kernel))))
      have f431 := (f427.wr W428)
      refine own_putF (pc' := 236) X428 hx hZ hown (host := "") (Or.inl (own_w hw 37 rfl)) Via.refl e428 f430 f431 (Or.inr ⟨(own_w hw 38 rfl), rfl, hnm⟩) (own_w hw 2 rfl) (ty := .long) (by decide) rfl rfl (hb hby d1_233) rfl ?_
      intro T432 h432 X432 e432 W432
      have z432 : n0 ≤ h432.size := Nat.le_trans z428 (Keep.of_wr W432).1
      have Fw432 := f430.same W432
      have N432 := Fr.snoc X432 N428 g_a1
      have K432 : Keep h0 h432 [a1] := K428.wr W432 (Or.inl (List.mem_of_getElem? (i := 0) rfl))
      refine own_aloadN (pc' := 237) X432 hx (hb hby d1_236) rfl rfl rfl ?_
      refine own_iload (pc' := 239) X432 hx (hb hby d1_237) rfl rfl ?_
      have f433 := (((((((((((((((F_distance0.other W380 (Or.inr (slot_ne (Or.inr (own_w hw 40 rfl)) (Or.inr (own_w hw 16 rfl)) (by decide) (t := .int) (t' := .int) (by decide +kernel) (by decide +kernel)))).other W384 (Or.inr (slot_ne (Or.inr (own_w hw 40 rfl)) (Or.inr (own_w hw 19 rfl)) (by decide) (t := .int) (t' := .int) (by decide +kernel) (by decide +kernel)))).other W387 (Or.inr (slot_ne (Or.inr (own_w hw 40 rfl)) (Or.inr (own_w hw 21 rfl)) (by decide) (t := .int) (t' := .long) (by decide +kernel) (by decide +kernel)))).other W390 (Or.inr (slot_ne (Or.inr (own_w hw 40 rfl)) (Or.inr (own_w hw 23 rfl)) (by decide) (t := .int) (t' := .long) (by decide +kernel) (by decide +kernel)))).other W394 (Or.inr (slot_ne (Or.inr (own_w hw 40 rfl)) (Or.inr (own_w hw 25 rfl)) (by decide) (t := .int) (t' := .int) (by decide +kernel) (by decide +kernel)))).other W399 (Or.inr (slot_ne (Or.inr (own_w hw 40 rfl)) (Or.inr (own_w hw 27 rfl)) (by decide) (t := .int) (t' := .long) (by decide +kernel) (by decide +kernel)))).ext E401).keep K405 (ninS ne_a1_b401 nin0)).keep K408 (ninS ne_a1_b401 nin0)).keep K411 (ninS ne_a1_b401 nin0)).other W416 (Or.inr (slot_ne (Or.inr (own_w hw 40 rfl)) (Or.inr (own_w hw 30 rfl)) (by decide) (t := .int) (t' := .long) (by decide +kernel) (by decide +kernel)))).other W420 (Or.inr (slot_ne (Or.inr (own_w hw 40 rfl)) (Or.inr (own_w hw 32 rfl)) (by decide) (t := .int) (t' := .long) (by decide +kernel) (by decide +kernel)))).other W424 (Or.inr (slot_ne (Or.inr (own_w hw 40 rfl)) (Or.inr (own_w hw 34 rfl)) (by decide) (t := .int) (t' := .long) (by decide +kernel) (by decide +kernel)))).other W428 (Or.inr (slot_ne (Or.inr (own_w hw 40 rfl)) (Or.inr (own_w hw 36 rfl)) (by decide) (t := .int) (t' := .long) (by decide +kernel) (by decide +kernel)))).other W432 (Or.inr (slot_ne (Or.inr (own_w hw 40 rfl)) (Or.inr (own_w hw 38 rfl)) (by decide) (t := .int) (t' := .long) (by decide +kernel) (by decide +kernel))))
      have f434 := (f431.wr W432)
      refine own_putF (pc' := 242) X432 hx hZ hown (host := "") (Or.inl (own_w hw 39 rfl)) Via.refl e432 f433 f434 (Or.inr ⟨(own_w hw 40 rfl), rfl, hnm⟩) (own_w hw 2 rfl) (ty := .int) (by decide) rfl rfl (hb hby d1_239) rfl ?_
      intro T435 h435 X435 e435 W435
      have z435 : n0 ≤ h435.size := Nat.le_trans z432 (Keep.of_wr W435).1
      have Fw435 := f433.same W435
      have N435 := Fr.snoc X435 N432 g_a1
      have K435 : Keep h0 h435 [a1] := K432.wr W435 (Or.inl (List.mem_of_getElem? (i := 0) rfl))
      refine own_aloadN (pc' := 243) X435 hx (hb hby d1_242) rfl rfl rfl ?_
      refine own_iload (pc' := 245) X435 hx (hb hby d1_243) rfl rfl ?_
      refine own_iconst (pc' := 246) X435 hx (1 : Int32) (hb hby d1_245) rfl rfl ?_
      refine own_ishl (pc' := 247) X435 hx (hb hby d1_246) rfl ?_
      have f436 := ((((((((((((((((F_distance1.other W380 (Or.inr (slot_ne (Or.inr (own_w hw 42 rfl)) (Or.inr (own_w hw 16 rfl)) (by decide) (t := .int) (t' := .int) (by decide +kernel) (by decide +kernel)))).other W384 (Or.inr (slot_ne (Or.inr (own_w hw 42 rfl)) (Or.inr (own_w hw 19 rfl)) (by decide) (t := .int) (t' := .int) (by decide +kernel) (by decide +kernel)))).other W387 (Or.inr (slot_ne (Or.inr (own_w hw 42 rfl)) (Or.inr (own_w hw 21 rfl)) (by decide) (t := .int) (t' := .long) (by decide +kernel) (by decide +kernel)))).other W390 (Or.inr (slot_ne (Or.inr (own_w hw 42 rfl)) (Or.inr (own_w hw 23 rfl)) (by decide) (t := .int) (t' := .long) (by decide +kernel) (by decide +kernel)))).other W394 (Or.inr (slot_ne (Or.inr (own_w hw 42 rfl)) (Or.inr (own_w hw 25 rfl)) (by decide) (t := .int) (t' := .int) (by decide +kernel) (by decide +kernel)))).other W399 (Or.inr (slot_ne (Or.inr (own_w hw 42 rfl)) (Or.inr (own_w hw 27 rfl)) (by decide) (t := .int) (t' := .long) (by decide +kernel) (by decide +kernel)))).ext E401).keep K405 (ninS ne_a1_b401 nin0)).keep K408 (ninS ne_a1_b401 nin0)).keep K411 (ninS ne_a1_b401 nin0)).other W416 (Or.inr (slot_ne (Or.inr (own_w hw 42 rfl)) (Or.inr (own_w hw 30 rfl)) (by decide) (t := .int) (t' := .long) (by decide +kernel) (by decide +kernel)))).other W420 (Or.inr (slot_ne (Or.inr (own_w hw 42 rfl)) (Or.inr (own_w hw 32 rfl)) (by decide) (t := .int) (t' := .long) (by decide +kernel) (by decide +kernel)))).other W424 (Or.inr (slot_ne (Or.inr (own_w hw 42 rfl)) (Or.inr (own_w hw 34 rfl)) (by decide) (t := .int) (t' := .long) (by decide +kernel) (by decide +kernel)))).other W428 (Or.inr (slot_ne (Or.inr (own_w hw 42 rfl)) (Or.inr (own_w hw 36 rfl)) (by decide) (t := .int) (t' := .long) (by decide +kernel) (by decide +kernel)))).other W432 (Or.inr (slot_ne (Or.inr (own_w hw 42 rfl)) (Or.inr (own_w hw 38 rfl)) (by decide) (t := .int) (t' := .long) (by decide +kernel) (by decide +kernel)))).other W435 (Or.inr (slot_ne (Or.inr (own_w hw 42 rfl)) (Or.inr (own_w hw 40 rfl)) (by decide) (t := .int) (t' := .int) (by decide +kernel) (by decide +kernel))))
      have f437 := (f434.wr W435)
      obtain ⟨v439, hv439⟩ : ∃ z : Int32, z = (v2 <<< ((1 : Int32) &&& 31)) := ⟨_, rfl⟩
      rw [← hv439]
      refine own_putF (pc' := 250) X435 hx hZ hown (host := "") (Or.inl (own_w hw 41 rfl)) Via.refl e435 f436 f437 (Or.inr ⟨(own_w hw 42 rfl), rfl, hnm⟩) (own_w hw 2 rfl) (ty := .int) (by decide) rfl rfl (hb hby d1_247) rfl ?_
      intro T438 h438 X438 e438 W438
      have z438 : n0 ≤ h438.size := Nat.le_trans z435 (Keep.of_wr W438).1
      have Fw438 := f436.same W438
      have N438 := Fr.snoc X438 N435 g_a1
      have K438 : Keep h0 h438 [a1] := K435.wr W438 (Or.inl (List.mem_of_getElem? (i := 0) rfl))
      refine own_aloadN (pc' := 251) X438 hx (hb hby d1_250) rfl rfl rfl ?_
      refine own_iload (pc' := 253) X438 hx (hb hby d1_251) rfl rfl ?_
      refine own_iconst (pc' := 254) X438 hx (2 : Int32) (hb hby d1_253) rfl rfl ?_
      refine own_ishl (pc' := 255) X438 hx (hb hby d1_254) rfl ?_
      have f440 := (((((((((((((((((F_distance2.other W380 (Or.inr (slot_ne (Or.inr (own_w hw 44 rfl)) (Or.inr (own_w hw 16 rfl)) (by decide) (t := .int) (t' := .int) (by decide +kernel) (by decide +kernel)))).other W384 (Or.inr (slot_ne (Or.inr (own_w hw 44 rfl)) (Or.inr (own_w hw 19 rfl)) (by decide) (t := .int) (t' := .int) (by decide +kernel) (by decide +kernel)))).other W387 (Or.inr (slot_ne (Or.inr (own_w hw 44 rfl)) (Or.inr (own_w hw 21 rfl)) (by decide) (t := .int) (t' := .long) (by decide +kernel) (by decide +kernel)))).other W390 (Or.inr (slot_ne (Or.inr (own_w hw 44 rfl)) (Or.inr (own_w hw 23 rfl)) (by decide) (t := .int) (t' := .long) (by decide +kernel) (by decide +kernel)))).other W394 (Or.inr (slot_ne (Or.inr (own_w hw 44 rfl)) (Or.inr (own_w hw 25 rfl)) (by decide) (t := .int) (t' := .int) (by decide +kernel) (by decide +kernel)))).other W399 (Or.inr (slot_ne (Or.inr (own_w hw 44 rfl)) (Or.inr (own_w hw 27 rfl)) (by decide) (t := .int) (t' := .long) (by decide +kernel) (by decide +kernel)))).ext E401).keep K405 (ninS ne_a1_b401 nin0)).keep K408 (ninS ne_a1_b401 nin0)).keep K411 (ninS ne_a1_b401 nin0)).other W416 (Or.inr (slot_ne (Or.inr (own_w hw 44 rfl)) (Or.inr (own_w hw 30 rfl)) (by decide) (t := .int) (t' := .long) (by decide +kernel) (by decide +kernel)))).other W420 (Or.inr (slot_ne (Or.inr (own_w hw 44 rfl)) (Or.inr (own_w hw 32 rfl)) (by decide) (t := .int) (t' := .long) (by decide +kernel) (by decide +kernel)))).other W424 (Or.inr (slot_ne (Or.inr (own_w hw 44 rfl)) (Or.inr (own_w hw 34 rfl)) (by decide) (t := .int) (t' := .long) (by decide +kernel) (by decide +kernel)))).other W428 (Or.inr (slot_ne (Or.inr (own_w hw 44 rfl)) (Or.inr (own_w hw 36 rfl)) (by decide) (t := .int) (t' := .long) (by decide +kernel) (by decide +kernel)))).other W432 (Or.inr (slot_ne (Or.inr (own_w hw 44 rfl)) (Or.inr (own_w hw 38 rfl)) (by decide) (t := .int) (t' := .long) (by decide +kernel) (by decide +kernel)))).other W435 (Or.inr (slot_ne (Or.inr (own_w hw 44 rfl)) (Or.inr (own_w hw 40 rfl)) (by decide) (t := .int) (t' := .int) (by decide +kernel) (by decide +kernel)))).other W438 (Or.inr (slot_ne (Or.inr (own_w hw 44 rfl)) (Or.inr (own_w hw 42 rfl)) (by decide) (t := .int) (t' := .int) (by decide +kernel) (by decide +kernel))))
      have f441 := (f437.wr W438)
      obtain ⟨v443, hv443⟩ : ∃ z : Int32, z = (v2 <<< ((2 : Int32) &&& 31)) := ⟨_, rfl⟩
      rw [← hv443]
      refine own_putF (pc' := 258) X438 hx hZ hown (host := "") (Or.inl (own_w hw 43 rfl)) Via.refl e438 f440 f441 (Or.inr ⟨(own_w hw 44 rfl), rfl, hnm⟩) (own_w hw 2 rfl) (ty := .int) (by decide) rfl rfl (hb hby d1_255) rfl ?_
      intro T442 h442 X442 e442 W442
      have z442 : n0 ≤ h442.size := Nat.le_trans z438 (Keep.of_wr W442).1
      have Fw442 := f440.same W442
      have N442 := Fr.snoc X442 N438 g_a1
      have K442 : Keep h0 h442 [a1] := K438.wr W442 (Or.inl (List.mem_of_getElem? (i := 0) rfl))
      refine own_aloadN (pc' := 259) X442 hx (hb hby d1_258) rfl rfl rfl ?_
      refine own_iload (pc' := 261) X442 hx (hb hby d1_259) rfl rfl ?_
      refine own_iconst (pc' := 262) X442 hx (3 : Int32) (hb hby d1_261) rfl rfl ?_
      refine own_ishl (pc' := 263) X442 hx (hb hby d1_262) rfl ?_
      have f444 := ((((((((((((((((((F_distance3.other W380 (Or.inr (slot_ne (Or.inr (own_w hw 46 rfl)) (Or.inr (own_w hw 16 rfl)) (by decide) (t := .int) (t' := .int) (by decide +kernel) (by decide +kernel)))).other W384 (Or.inr (slot_ne (Or.inr (own_w hw 46 rfl)) (Or.inr (own_w hw 19 rfl)) (by decide) (t := .int) (t' := .int) (by decide +kernel) (by decide +kernel)))).other W387 (Or.inr (slot_ne (Or.inr (own_w hw 46 rfl)) (Or.inr (own_w hw 21 rfl)) (by decide) (t := .int) (t' := .long) (by decide +kernel) (by decide +kernel)))).other W390 (Or.inr (slot_ne (Or.inr (own_w hw 46 rfl)) (Or.inr (own_w hw 23 rfl)) (by decide) (t := .int) (t' := .long) (by decide +kernel) (by decide +kernel)))).other W394 (Or.inr (slot_ne (Or.inr (own_w hw 46 rfl)) (Or.inr (own_w hw 25 rfl)) (by decide) (t := .int) (t' := .int) (by decide +kernel) (by decide +kernel)))).other W399 (Or.inr (slot_ne (Or.inr (own_w hw 46 rfl)) (Or.inr (own_w hw 27 rfl)) (by decide) (t := .int) (t' := .long) (by decide +kernel) (by decide +kernel)))).ext E401).keep K405 (ninS ne_a1_b401 nin0)).keep K408 (ninS ne_a1_b401 nin0)).keep K411 (ninS ne_a1_b401 nin0)).other W416 (Or.inr (slot_ne (Or.inr (own_w hw 46 rfl)) (Or.inr (own_w hw 30 rfl)) (by decide) (t := .int) (t' := .long) (by decide +kernel) (by decide +kernel)))).other W420 (Or.inr (slot_ne (Or.inr (own_w hw 46 rfl)) (Or.inr (own_w hw 32 rfl)) (by decide) (t := .int) (t' := .long) (by decide +kernel) (by decide +kernel)))).other W424 (Or.inr (slot_ne (Or.inr (own_w hw 46 rfl)) (Or.inr (own_w hw 34 rfl)) (by decide) (t := .int) (t' := .long) (by decide +kernel) (by decide +kernel)))).other W428 (Or.inr (slot_ne (Or.inr (own_w hw 46 rfl)) (Or.inr (own_w hw 36 rfl)) (by decide) (t := .int) (t' := .long) (by decide +kernel) (by decide +kernel)))).other W432 (Or.inr (slot_ne (Or.inr (own_w hw 46 rfl)) (Or.inr (own_w hw 38 rfl)) (by decide) (t := .int) (t' := .long) (by decide +kernel) (by decide +kernel)))).other W435 (Or.inr (slot_ne (Or.inr (own_w hw 46 rfl)) (Or.inr (own_w hw 40 rfl)) (by decide) (t := .int) (t' := .int) (by decide +kernel) (by decide +kernel)))).other W438 (Or.inr (slot_ne (Or.inr (own_w hw 46 rfl)) (Or.inr (own_w hw 42 rfl)) (by decide) (t := .int) (t' := .int) (by decide +kernel) (by decide +kernel)))).other W442 (Or.inr (slot_ne (Or.inr (own_w hw 46 rfl)) (Or.inr (own_w hw 44 rfl)) (by decide) (t := .int) (t' := .int) (by decide +kernel) (by decide +kernel))))
      have f445 := (f441.wr W442)
      obtain ⟨v447, hv447⟩ : ∃ z : Int32, z = (v2 <<< ((3 : Int32) &&& 31)) := ⟨_, rfl⟩
      rw [← hv447]
      refine own_putF (pc' := 266) X442 hx hZ hown (host := "") (Or.inl (own_w hw 45 rfl)) Via.refl e442 f444 f445 (Or.inr ⟨(own_w hw 46 rfl), rfl, hnm⟩) (own_w hw 2 rfl) (ty := .int) (by decide) rfl rfl (hb hby d1_263) rfl ?_
      intro T446 h446 X446 e446 W446
      have z446 : n0 ≤ h446.size := Nat.le_trans z442 (Keep.of_wr W446).1
      have Fw446 := f444.same W446
      have N446 := Fr.snoc X446 N442 g_a1
      have K446 : Keep h0 h446 [a1] := K442.wr W446 (Or.inl (List.mem_of_getElem? (i := 0) rfl))
      refine own_aloadN (pc' := 267) X446 hx (hb hby d1_266) rfl rfl rfl ?_
      refine own_iload (pc' := 269) X446 hx (hb hby d1_267) rfl rfl ?_
      refine own_iconst (pc' := 270) X446 hx (4 : Int32) (hb hby d1_269) rfl rfl ?_
      refine own_ishl (pc' := 271) X446 hx (hb hby d1_270) rfl ?_
      have f448 := (((((((((((((((((((F_distance4.other W380 (Or.inr (slot_ne (Or.inr (own_w hw 48 rfl)) (Or.inr (own_w hw 16 rfl)) (by decide) (t := .int) (t' := .int) (by decide +kernel) (by decide +kernel)))).other W384 (Or.inr (slot_ne (Or.inr (own_w hw 48 rfl)) (Or.inr (own_w hw 19 rfl)) (by decide) (t := .int) (t' := .int) (by decide +kernel) (by decide +kernel)))).other W387 (Or.inr (slot_ne (Or.inr (own_w hw 48 rfl)) (Or.inr (own_w hw 21 rfl)) (by decide) (t := .int) (t' := .long) (by decide +kernel) (by decide +kernel)))).other W390 (Or.inr (slot_ne (Or.inr (own_w hw 48 rfl)) (Or.inr (own_w hw 23 rfl)) (by decide) (t := .int) (t' := .long) (by decide +kernel) (by decide +kernel)))).other W394 (Or.inr (slot_ne (Or.inr (own_w hw 48 rfl)) (Or.inr (own_w hw 25 rfl)) (by decide) (t := .int) (t' := .int) (by decide +kernel) (by decide +kernel)))).other W399 (Or.inr (slot_ne (Or.inr (own_w hw 48 rfl)) (Or.inr (own_w hw 27 rfl)) (by decide) (t := .int) (t' := .long) (by decide +kernel) (by decide +kernel)))).ext E401).keep K405 (ninS ne_a1_b401 nin0)).keep K408 (ninS ne_a1_b401 nin0)).keep K411 (ninS ne_a1_b401 nin0)).other W416 (Or.inr (slot_ne (Or.inr (own_w hw 48 rfl)) (Or.inr (own_w hw 30 rfl)) (by decide) (t := .int) (t' := .long) (by decide +kernel) (by decide +kernel)))).other W420 (Or.inr (slot_ne (Or.inr (own_w hw 48 rfl)) (Or.inr (own_w hw 32 rfl)) (by decide) (t := .int) (t' := .long) (by decide +kernel) (by decide +kernel)))).other W424 (Or.inr (slot_ne (Or.inr (own_w hw 48 rfl)) (Or.inr (own_w hw 34 rfl)) (by decide) (t := .int) (t' := .long) (by decide +kernel) (by decide +kernel)))).other W428 (Or.inr (slot_ne (Or.inr (own_w hw 48 rfl)) (Or.inr (own_w hw 36 rfl)) (by decide) (t := .int) (t' := .long) (by decide +kernel) (by decide +kernel)))).other W432 (Or.inr (slot_ne (Or.inr (own_w hw 48 rfl)) (Or.inr (own_w hw 38 rfl)) (by decide) (t := .int) (t' := .long) (by decide +kernel) (by decide +kernel)))).other W435 (Or.inr (slot_ne (Or.inr (own_w hw 48 rfl)) (Or.inr (own_w hw 40 rfl)) (by decide) (t := .int) (t' := .int) (by decide +kernel) (by decide +kernel)))).other W438 (Or.inr (slot_ne (Or.inr (own_w hw 48 rfl)) (Or.inr (own_w hw 42 rfl)) (by decide) (t := .int) (t' := .int) (by decide +kernel) (by decide +kernel)))).other W442 (Or.inr (slot_ne (Or.inr (own_w hw 48 rfl)) (Or.inr (own_w hw 44 rfl)) (by decide) (t := .int) (t' := .int) (by decide +kernel) (by decide +kernel)))).other W446 (Or.inr (slot_ne (Or.inr (own_w hw 48 rfl)) (Or.inr (own_w hw 46 rfl)) (by decide) (t := .int) (t' := .int) (by decide +kernel) (by decide +kernel))))
      have f449 := (f445.wr W446)
      obtain ⟨v451, hv451⟩ : ∃ z : Int32, z = (v2 <<< ((4 : Int32) &&& 31)) := ⟨_, rfl⟩
      rw [← hv451]
      refine own_putF (pc' := 274) X446 hx hZ hown (host := "") (Or.inl (own_w hw 47 rfl)) Via.refl e446 f448 f449 (Or.inr ⟨(own_w hw 48 rfl), rfl, hnm⟩) (own_w hw 2 rfl) (ty := .int) (by decide) rfl rfl (hb hby d1_271) rfl ?_
      intro T450 h450 X450 e450 W450
      have z450 : n0 ≤ h450.size := Nat.le_trans z446 (Keep.of_wr W450).1
      have Fw450 := f448.same W450
      have N450 := Fr.snoc X450 N446 g_a1
      have K450 : Keep h0 h450 [a1] := K446.wr W450 (Or.inl (List.mem_of_getElem? (i := 0) rfl))
      refine own_aloadN (pc' := 275) X450 hx (hb hby d1_274) rfl rfl rfl ?_
      refine own_aloadN (pc' := 276) X450 hx (hb hby d1_275) rfl rfl rfl ?_
      have f452 := (((((((((Fw416.other W420 (Or.inr (slot_ne (Or.inr (own_w hw 30 rfl)) (Or.inr (own_w hw 32 rfl)) (by decide) (t := .long) (t' := .long) (by decide +kernel) (by decide +kernel)))).other W424 (Or.inr (slot_ne (Or.inr (own_w hw 30 rfl)) (Or.inr (own_w hw 34 rfl)) (by decide) (t := .long) (t' := .long) (by decide +kernel) (by decide +kernel)))).other W428 (Or.inr (slot_ne (Or.inr (own_w hw 30 rfl)) (Or.inr (own_w hw 36 rfl)) (by decide) (t := .long) (t' := .long) (by decide +kernel) (by decide +kernel)))).other W432 (Or.inr (slot_ne (Or.inr (own_w hw 30 rfl)) (Or.inr (own_w hw 38 rfl)) (by decide) (t := .long) (t' := .long) (by decide +kernel) (by decide +kernel)))).other W435 (Or.inr (slot_ne (Or.inr (own_w hw 30 rfl)) (Or.inr (own_w hw 40 rfl)) (by decide) (t := .long) (t' := .int) (by decide +kernel) (by decide +kernel)))).other W438 (Or.inr (slot_ne (Or.inr (own_w hw 30 rfl)) (Or.inr (own_w hw 42 rfl)) (by decide) (t := .long) (t' := .int) (by decide +kernel) (by decide +kernel)))).other W442 (Or.inr (slot_ne (Or.inr (own_w hw 30 rfl)) (Or.inr (own_w hw 44 rfl)) (by decide) (t := .long) (t' := .int) (by decide +kernel) (by decide +kernel)))).other W446 (Or.inr (slot_ne (Or.inr (own_w hw 30 rfl)) (Or.inr (own_w hw 46 rfl)) (by decide) (t := .long) (t' := .int) (by decide +kernel) (by decide +kernel)))).other W450 (Or.inr (slot_ne (Or.inr (own_w hw 30 rfl)) (Or.inr (own_w hw 48 rfl)) (by decide) (t := .long) (t' := .int) (by decide +kernel) (by decide +kernel))))
      refine own_getF (pc' := 279) X450 hx hZ hown (host := "") (Or.inl (own_w hw 29 rfl)) Via.refl e450 f452 (hb hby d1_276) rfl ?_
      intro T453 X453 e453
      refine own_aloadN (pc' := 280) X453 hx (hb hby d1_279) rfl rfl rfl ?_
      have f454 := ((((Fw435.other W438 (Or.inr (slot_ne (Or.inr (own_w hw 40 rfl)) (Or.inr (own_w hw 42 rfl)) (by decide) (t := .int) (t' := .int) (by decide +kernel) (by decide +kernel)))).other W442 (Or.inr (slot_ne (Or.inr (own_w hw 40 rfl)) (Or.inr (own_w hw 44 rfl)) (by decide) (t := .int) (t' := .int) (by decide +kernel) (by decide +kernel)))).other W446 (Or.inr (slot_ne (Or.inr (own_w hw 40 rfl)) (Or.inr (own_w hw 46 rfl)) (by decide) (t := .int) (t' := .int) (by decide +kernel) (by decide +kernel)))).other W450 (Or.inr (slot_ne (Or.inr (own_w hw 40 rfl)) (Or.inr (own_w hw 48 rfl)) (by decide) (t := .int) (t' := .int) (by decide +kernel) (by decide +kernel))))
      refine own_getF (pc' := 283) X453 hx hZ hown (host := "") (Or.inl (own_w hw 39 rfl)) Via.refl e453 f454 (hb hby d1_280) rfl ?_
      intro T455 X455 e455
      refine own_lushr (pc' := 284) X455 hx (hb hby d1_283) rfl ?_
      have f456 := ((((((((((((((((((((F_moved0.other W380 (Or.inr (slot_ne (Or.inr (own_w hw 50 rfl)) (Or.inr (own_w hw 16 rfl)) (by decide) (t := .long) (t' := .int) (by decide +kernel) (by decide +kernel)))).other W384 (Or.inr (slot_ne (Or.inr (own_w hw 50 rfl)) (Or.inr (own_w hw 19 rfl)) (by decide) (t := .long) (t' := .int) (by decide +kernel) (by decide +kernel)))).other W387 (Or.inr (slot_ne (Or.inr (own_w hw 50 rfl)) (Or.inr (own_w hw 21 rfl)) (by decide) (t := .long) (t' := .long) (by decide +kernel) (by decide +kernel)))).other W390 (Or.inr (slot_ne (Or.inr (own_w hw 50 rfl)) (Or.inr (own_w hw 23 rfl)) (by decide) (t := .long) (t' := .long) (by decide +kernel) (by decide +kernel)))).other W394 (Or.inr (slot_ne (Or.inr (own_w hw 50 rfl)) (Or.inr (own_w hw 25 rfl)) (by decide) (t := .long) (t' := .int) (by decide +kernel) (by decide +kernel)))).other W399 (Or.inr (slot_ne (Or.inr (own_w hw 50 rfl)) (Or.inr (own_w hw 27 rfl)) (by decide) (t := .long) (t' := .long) (by decide +kernel) (by decide +kernel)))).ext E401).keep K405 (ninS ne_a1_b401 nin0)).keep K408 (ninS ne_a1_b401 nin0)).keep K411 (ninS ne_a1_b401 nin0)).other W416 (Or.inr (slot_ne (Or.inr (own_w hw 50 rfl)) (Or.inr (own_w hw 30 rfl)) (by decide) (t := .long) (t' := .long) (by decide +kernel) (by decide +kernel)))).other W420 (Or.inr (slot_ne (Or.inr (own_w hw 50 rfl)) (Or.inr (own_w hw 32 rfl)) (by decide) (t := .long) (t' := .long) (by decide +kernel) (by decide +kernel)))).other W424 (Or.inr (slot_ne (Or.inr (own_w hw 50 rfl)) (Or.inr (own_w hw 34 rfl)) (by decide) (t := .long) (t' := .long) (by decide +kernel) (by decide +kernel)))).other W428 (Or.inr (slot_ne (Or.inr (own_w hw 50 rfl)) (Or.inr (own_w hw 36 rfl)) (by decide) (t := .long) (t' := .long) (by decide +kernel) (by decide +kernel)))).other W432 (Or.inr (slot_ne (Or.inr (own_w hw 50 rfl)) (Or.inr (own_w hw 38 rfl)) (by decide) (t := .long) (t' := .long) (by decide +kernel) (by decide +kernel)))).other W435 (Or.inr (slot_ne (Or.inr (own_w hw 50 rfl)) (Or.inr (own_w hw 40 rfl)) (by decide) (t := .long) (t' := .int) (by decide +kernel) (by decide +kernel)))).other W438 (Or.inr (slot_ne (Or.inr (own_w hw 50 rfl)) (Or.inr (own_w hw 42 rfl)) (by decide) (t := .long) (t' := .int) (by decide +kernel) (by decide +kernel)))).other W442 (Or.inr (slot_ne (Or.inr (own_w hw 50 rfl)) (Or.inr (own_w hw 44 rfl)) (by decide) (t := .long) (t' := .int) (by decide +kernel) (by decide +kernel)))).other W446 (Or.inr (slot_ne (Or.inr (own_w hw 50 rfl)) (Or.inr (own_w hw 46 rfl)) (by decide) (t := .long) (t' := .int) (by decide +kernel) (by decide +kernel)))).other W450 (Or.inr (slot_ne (Or.inr (own_w hw 50 rfl)) (Or.inr (own_w hw 48 rfl)) (by decide) (t := .long) (t' := .int) (by decide +kernel) (by decide +kernel))))
      have f457 := (f449.wr W450)
      obtain ⟨v459, hv459⟩ : ∃ z : Int64, z = ((mv405.toUInt64 >>> (v2 &&& 0x3f).toInt64.toUInt64).toInt64) := ⟨_, rfl⟩
      rw [← hv459]
      refine own_putF (pc' := 287) X455 hx hZ hown (host := "") (Or.inl (own_w hw 49 rfl)) Via.refl e455 f456 f457 (Or.inr ⟨(own_w hw 50 rfl), rfl, hnm⟩) (own_w hw 2 rfl) (ty := .long) (by decide) rfl rfl (hb hby d1_284) rfl ?_
      intro T458 h458 X458 e458 W458
      have z458 : n0 ≤ h458.size := Nat.le_trans z450 (Keep.of_wr W458).1
      have Fw458 := f456.same W458
      have N458 := Fr.snoc X458 N450 g_a1
      have K458 : Keep h0 h458 [a1] := K450.wr W458 (Or.inl (List.mem_of_getElem? (i := 0) rfl))
      refine own_aloadN (pc' := 288) X458 hx (hb hby d1_287) rfl rfl rfl ?_
      refine own_aloadN (pc' := 289) X458 hx (hb hby d1_288) rfl rfl rfl ?_
      have f460 := (((((((((Fw420.other W424 (Or.inr (slot_ne (Or.inr (own_w hw 32 rfl)) (Or.inr (own_w hw 34 rfl)) (by decide) (t := .long) (t' := .long) (by decide +kernel) (by decide +kernel)))).other W428 (Or.inr (slot_ne (Or.inr (own_w hw 32 rfl)) (Or.inr (own_w hw 36 rfl)) (by decide) (t := .long) (t' := .long) (by decide +kernel) (by decide +kernel)))).other W432 (Or.inr (slot_ne (Or.inr (own_w hw 32 rfl)) (Or.inr (own_w hw 38 rfl)) (by decide) (t := .long) (t' := .long) (by decide +kernel) (by decide +kernel)))).other W435 (Or.inr (slot_ne (Or.inr (own_w hw 32 rfl)) (Or.inr (own_w hw 40 rfl)) (by decide) (t := .long) (t' := .int) (by decide +kernel) (by decide +kernel)))).other W438 (Or.inr (slot_ne (Or.inr (own_w hw 32 rfl)) (Or.inr (own_w hw 42 rfl)) (by decide) (t := .long) (t' := .int) (by decide +kernel) (by decide +kernel)))).other W442 (Or.inr (slot_ne (Or.inr (own_w hw 32 rfl)) (Or.inr (own_w hw 44 rfl)) (by decide) (t := .long) (t' := .int) (by decide +kernel) (by decide +kernel)))).other W446 (Or.inr (slot_ne (Or.inr (own_w hw 32 rfl)) (Or.inr (own_w hw 46 rfl)) (by decide) (t := .long) (t' := .int) (by decide +kernel) (by decide +kernel)))).other W450 (Or.inr (slot_ne (Or.inr (own_w hw 32 rfl)) (Or.inr (own_w hw 48 rfl)) (by decide) (t := .long) (t' := .int) (by decide +kernel) (by decide +kernel)))).other W458 (Or.inr (slot_ne (Or.inr (own_w hw 32 rfl)) (Or.inr (own_w hw 50 rfl)) (by decide) (t := .long) (t' := .long) (by decide +kernel) (by decide +kernel))))
      refine own_getF (pc' := 292) X458 hx hZ hown (host := "") (Or.inl (own_w hw 31 rfl)) Via.refl e458 f460 (hb hby d1_289) rfl ?_
      intro T461 X461 e461
      refine own_aloadN (pc' := 293) X461 hx (hb hby d1_292) rfl rfl rfl ?_
      have f462 := ((((Fw438.other W442 (Or.inr (slot_ne (Or.inr (own_w hw 42 rfl)) (Or.inr (own_w hw 44 rfl)) (by decide) (t := .int) (t' := .int) (by decide +kernel) (by decide +kernel)))).other W446 (Or.inr (slot_ne (Or.inr (own_w hw 42 rfl)) (Or.inr (own_w hw 46 rfl)) (by decide) (t := .int) (t' := .int) (by decide +kernel) (by decide +kernel)))).other W450 (Or.inr (slot_ne (Or.inr (own_w hw 42 rfl)) (Or.inr (own_w hw 48 rfl)) (by decide) (t := .int) (t' := .int) (by decide +kernel) (by decide +kernel)))).other W458 (Or.inr (slot_ne (Or.inr (own_w hw 42 rfl)) (Or.inr (own_w hw 50 rfl)) (by decide) (t := .int) (t' := .long) (by decide +kernel) (by decide +kernel))))
      refine own_getF (pc' := 296) X461 hx hZ hown (host := "") (Or.inl (own_w hw 41 rfl)) Via.refl e461 f462 (hb hby d1_293) rfl ?_
      intro T463 X463 e463
      refine own_lushr (pc' := 297) X463 hx (hb hby d1_296) rfl ?_
      have f464 := (((((((((((((((((((((F_moved1.other W380 (Or.inr (slot_ne (Or.inr (own_w hw 52 rfl)) (Or.inr (own_w hw 16 rfl)) (by decide) (t := .long) (t' := .int) (by decide +kernel) (by decide +kernel)))).other W384 (Or.inr (slot_ne (Or.inr (own_w hw 52 rfl)) (Or.inr (own_w hw 19 rfl)) (by decide) (t := .long) (t' := .int) (by decide +kernel) (by decide +kernel)))).other W387 (Or.inr (slot_ne (Or.inr (own_w hw 52 rfl)) (Or.inr (own_w hw 21 rfl)) (by decide) (t := .long) (t' := .long) (by decide +kernel) (by decide +kernel)))).other W390 (Or.inr (slot_ne (Or.inr (own_w hw 52 rfl)) (Or.inr (own_w hw 23 rfl)) (by decide) (t := .long) (t' := .long) (by decide +kernel) (by decide +kernel)))).other W394 (Or.inr (slot_ne (Or.inr (own_w hw 52 rfl)) (Or.inr (own_w hw 25 rfl)) (by decide) (t := .long) (t' := .int) (by decide +kernel) (by decide +kernel)))).other W399 (Or.inr (slot_ne (Or.inr (own_w hw 52 rfl)) (Or.inr (own_w hw 27 rfl)) (by decide) (t := .long) (t' := .long) (by decide +kernel) (by decide +kernel)))).ext E401).keep K405 (ninS ne_a1_b401 nin0)).keep K408 (ninS ne_a1_b401 nin0)).keep K411 (ninS ne_a1_b401 nin0)).other W416 (Or.inr (slot_ne (Or.inr (own_w hw 52 rfl)) (Or.inr (own_w hw 30 rfl)) (by decide) (t := .long) (t' := .long) (by decide +kernel) (by decide +kernel)))).other W420 (Or.inr (slot_ne (Or.inr (own_w hw 52 rfl)) (Or.inr (own_w hw 32 rfl)) (by decide) (t := .long) (t' := .long) (by decide +kernel) (by decide +kernel)))).other W424 (Or.inr (slot_ne (Or.inr (own_w hw 52 rfl)) (Or.inr (own_w hw 34 rfl)) (by decide) (t := .long) (t' := .long) (by decide +kernel) (by decide +kernel)))).other W428 (Or.inr (slot_ne (Or.inr (own_w hw 52 rfl)) (Or.inr (own_w hw 36 rfl)) (by decide) (t := .long) (t' := .long) (by decide +kernel) (by decide +kernel)))).other W432 (Or.inr (slot_ne (Or.inr (own_w hw 52 rfl)) (Or.inr (own_w hw 38 rfl)) (by decide) (t := .long) (t' := .long) (by decide +kernel) (by decide +kernel)))).other W435 (Or.inr (slot_ne (Or.inr (own_w hw 52 rfl)) (Or.inr (own_w hw 40 rfl)) (by decide) (t := .long) (t' := .int) (by decide +kernel) (by decide +kernel)))).other W438 (Or.inr (slot_ne (Or.inr (own_w hw 52 rfl)) (Or.inr (own_w hw 42 rfl)) (by decide) (t := .long) (t' := .int) (by decide +kernel) (by decide +kernel)))).other W442 (Or.inr (slot_ne (Or.inr (own_w hw 52 rfl)) (Or.inr (own_w hw 44 rfl)) (by decide) (t := .long) (t' := .int) (by decide +kernel) (by decide +kernel)))).other W446 (Or.inr (slot_ne (Or.inr (own_w hw 52 rfl)) (Or.inr (own_w hw 46 rfl)) (by decide) (t := .long) (t' := .int) (by decide +kernel) (by decide +kernel)))).other W450 (Or.inr (slot_ne (Or.inr (own_w hw 52 rfl)) (Or.inr (own_w hw 48 rfl)) (by decide) (t := .long) (t' := .int) (by decide +kernel) (by decide +kernel)))).other W458 (Or.inr (slot_ne (Or.inr (own_w hw 52 rfl)) (Or.inr (own_w hw 50 rfl)) (by decide) (t := .long) (t' := .long) (by decide +kernel) (by decide +kernel))))
      have f465 := (f457.wr W458)
      obtain ⟨v467, hv467⟩ : ∃ z : Int64, z = ((mv408.toUInt64 >>> (v439 &&& 0x3f).toInt64.toUInt64).toInt64) := ⟨_, rfl⟩
      rw [← hv467]
      refine own_putF (pc' := 300) X463 hx hZ hown (host := "") (Or.inl (own_w hw 51 rfl)) Via.refl e463 f464 f465 (Or.inr ⟨(own_w hw 52 rfl), rfl, hnm⟩) (own_w hw 2 rfl) (ty := .long) (by decide) rfl rfl (hb hby d1_297) rfl ?_
      intro T466 h466 X466 e466 W466
      have z466 : n0 ≤ h466.size := Nat.le_trans z458 (Keep.of_wr W466).1
      have Fw466 := f464.same W466
      have N466 := Fr.snoc X466 N458 g_a1
      have K466 : Keep h0 h466 [a1] := K458.wr W466 (Or.inl (List.mem_of_getElem? (i := 0) rfl))
      refine own_aloadN (pc' := 301) X466 hx (hb hby d1_300) rfl rfl rfl ?_
      refine own_aloadN (pc' := 302) X466 hx (hb hby d1_301) rfl rfl rfl ?_
      have f468 := (((((((((Fw424.other W428 (Or.inr (slot_ne (Or.inr (own_w hw 34 rfl)) (Or.inr (own_w hw 36 rfl)) (by decide) (t := .long) (t' := .long) (by decide +kernel) (by decide +kernel)))).other W432 (Or.inr (slot_ne (Or.inr (own_w hw 34 rfl)) (Or.inr (own_w hw 38 rfl)) (by decide) (t := .long) (t' := .long) (by decide +kernel) (by decide +kernel)))).other W435 (Or.inr (slot_ne (Or.inr (own_w hw 34 rfl)) (Or.inr (own_w hw 40 rfl)) (by decide) (t := .long) (t' := .int) (by decide +kernel) (by decide +kernel)))).other W438 (Or.inr (slot_ne (Or.inr (own_w hw 34 rfl)) (Or.inr (own_w hw 42 rfl)) (by decide) (t := .long) (t' := .int) (by decide +kernel) (by decide +kernel)))).other W442 (Or.inr (slot_ne (Or.inr (own_w hw 34 rfl)) (Or.inr (own_w hw 44 rfl)) (by decide) (t := .long) (t' := .int) (by decide +kernel) (by decide +kernel)))).other W446 (Or.inr (slot_ne (Or.inr (own_w hw 34 rfl)) (Or.inr (own_w hw 46 rfl)) (by decide) (t := .long) (t' := .int) (by decide +kernel) (by decide +kernel)))).other W450 (Or.inr (slot_ne (Or.inr (own_w hw 34 rfl)) (Or.inr (own_w hw 48 rfl)) (by decide) (t := .long) (t' := .int) (by decide +kernel) (by decide +kernel)))).other W458 (Or.inr (slot_ne (Or.inr (own_w hw 34 rfl)) (Or.inr (own_w hw 50 rfl)) (by decide) (t := .long) (t' := .long) (by decide +kernel) (by decide +kernel)))).other W466 (Or.inr (slot_ne (Or.inr (own_w hw 34 rfl)) (Or.inr (own_w hw 52 rfl)) (by decide) (t := .long) (t' := .long) (by decide +kernel) (by decide +kernel))))
      refine own_getF (pc' := 305) X466 hx hZ hown (host := "") (Or.inl (own_w hw 33 rfl)) Via.refl e466 f468 (hb hby d1_302) rfl ?_
      intro T469 X469 e469
      refine own_aloadN (pc' := 306) X469 hx (hb hby d1_305) rfl rfl rfl ?_
      have f470 := ((((Fw442.other W446 (Or.inr (slot_ne (Or.inr (own_w hw 44 rfl)) (Or.inr (own_w hw 46 rfl)) (by decide) (t := .int) (t' := .int) (by decide +kernel) (by decide +kernel)))).other W450 (Or.inr (slot_ne (Or.inr (own_w hw 44 rfl)) (Or.inr (own_w hw 48 rfl)) (by decide) (t := .int) (t' := .int) (by decide +kernel) (by decide +kernel)))).other W458 (Or.inr (slot_ne (Or.inr (own_w hw 44 rfl)) (Or.inr (own_w hw 50 rfl)) (by decide) (t := .int) (t' := .long) (by decide +kernel) (by decide +kernel)))).other W466 (Or.inr (slot_ne (Or.inr (own_w hw 44 rfl)) (Or.inr (own_w hw 52 rfl)) (by decide) (t := .int) (t' := .long) (by decide +kernel) (by decide +kernel))))
      refine own_getF (pc' := 309) X469 hx hZ hown (host := "") (Or.inl (own_w hw 43 rfl)) Via.refl e469 f470 (hb hby d1_306) rfl ?_
      intro T471 X471 e471
      refine own_lushr (pc' := 310) X471 hx (hb hby d1_309) rfl ?_
      have f472 := ((((((((((((((((((((((F_moved2.other W380 (Or.inr (slot_ne (Or.inr (own_w hw 54 rfl)) (Or.inr (own_w hw 16 rfl)) (by decide) (t := .long) (t' := .int) (by decide +kernel) (by decide +kernel)))).other W384 (Or.inr (slot_ne (Or.inr (own_w hw 54 rfl)) (Or.inr (own_w hw 19 rfl)) (by decide) (t := .long) (t' := .int) (by decide +kernel) (by decide +kernel)))).other W387 (Or.inr (slot_ne (Or.inr (own_w hw 54 rfl)) (Or.inr (own_w hw 21 rfl)) (by decide) (t := .long) (t' := .long) (by decide +kernel) (by decide +kernel)))).other W390 (Or.inr (slot_ne (Or.inr (own_w hw 54 rfl)) (Or.inr (own_w hw 23 rfl)) (by decide) (t := .long) (t' := .long) (by decide +kernel) (by decide +kernel)))).other W394 (Or.inr (slot_ne (Or.inr (own_w hw 54 rfl)) (Or.inr (own_w hw 25 rfl)) (by decide) (t := .long) (t' := .int) (by decide +kernel) (by decide +kernel)))).other W399 (Or.inr (slot_ne (Or.inr (own_w hw 54 rfl)) (Or.inr (own_w hw 27 rfl)) (by decide) (t := .long) (t' := .long) (by decide +kernel) (by decide +kernel)))).ext E401).keep K405 (ninS ne_a1_b401 nin0)).keep K408 (ninS ne_a1_b401 nin0)).keep K411 (ninS ne_a1_b401 nin0)).other W416 (Or.inr (slot_ne (Or.inr (own_w hw 54 rfl)) (Or.inr (own_w hw 30 rfl)) (by decide) (t := .long) (t' := .long) (by decide +kernel) (by decide +kernel)))).other W420 (Or.inr (slot_ne (Or.inr (own_w hw 54 rfl)) (Or.inr (own_w hw 32 rfl)) (by decide) (t := .long) (t' := .long) (by decide +kernel) (by decide +kernel)))).other W424 (Or.inr (slot_ne (Or.inr (own_w hw 54 rfl)) (Or.inr (own_w hw 34 rfl)) (by decide) (t := .long) (t' := .long) (by decide +kernel) (by decide +kernel)))).other W428 (Or.inr (slot_ne (Or.inr (own_w hw 54 rfl)) (Or.inr (own_w hw 36 rfl)) (by decide) (t := .long) (t' := .long) (by decide +kernel) (by decide +kernel)))).other W432 (Or.inr (slot_ne (Or.inr (own_w hw 54 rfl)) (Or.inr (own_w hw 38 rfl)) (by decide) (t := .long) (t' := .long) (by decide +kernel) (by decide +kernel)))).other W435 (Or.inr (slot_ne (Or.inr (own_w hw 54 rfl)) (Or.inr (own_w hw 40 rfl)) (by decide) (t := .long) (t' := .int) (by decide +kernel) (by decide +kernel)))).other W438 (Or.inr (slot_ne (Or.inr (own_w hw 54 rfl)) (Or.inr (own_w hw 42 rfl)) (by decide) (t := .long) (t' := .int) (by decide +kernel) (by decide +kernel)))).other W442 (Or.inr (slot_ne (Or.inr (own_w hw 54 rfl)) (Or.inr (own_w hw 44 rfl)) (by decide) (t := .long) (t' := .int) (by decide +kernel) (by decide +kernel)))).other W446 (Or.inr (slot_ne (Or.inr (own_w hw 54 rfl)) (Or.inr (own_w hw 46 rfl)) (by decide) (t := .long) (t' := .int) (by decide +kernel) (by decide +kernel)))).other W450 (Or.inr (slot_ne (Or.inr (own_w hw 54 rfl)) (Or.inr (own_w hw 48 rfl)) (by decide) (t := .long) (t' := .int) (by decide +kernel) (by decide +kernel)))).other W458 (Or.inr (slot_ne (Or.inr (own_w hw 54 rfl)) (Or.inr (own_w hw 50 rfl)) (by decide) (t := .long) (t' := .long) (by decide +kernel) (by decide +kernel)))).other W466 (Or.inr (slot_ne (Or.inr (own_w hw 54 rfl)) (Or.inr (own_w hw 52 rfl)) (by decide) (t := .long) (t' := .long) (by decide +kernel) (by decide +kernel))))
      have f473 := (f465.wr W466)
      obtain ⟨v475, hv475⟩ : ∃ z : Int64, z = ((mv411.toUInt64 >>> (v443 &&& 0x3f).toInt64.toUInt64).toInt64) := ⟨_, rfl⟩
      rw [← hv475]
      refine own_putF (pc' := 313) X471 hx hZ hown (host := "") (Or.inl (own_w hw 53 rfl)) Via.refl e471 f472 f473 (Or.inr ⟨(own_w hw 54 rfl), rfl, hnm⟩) (own_w hw 2 rfl) (ty := .long) (by decide) rfl rfl (hb hby d1_310) rfl ?_
      intro T474 h474 X474 e474 W474
      have z474 : n0 ≤ h474.size := Nat.le_trans z466 (Keep.of_wr W474).1
      have Fw474 := f472.same W474
      have N474 := Fr.snoc X474 N466 g_a1
      have K474 : Keep h0 h474 [a1] := K466.wr W474 (Or.inl (List.mem_of_getElem? (i := 0) rfl))
      refine own_aloadN (pc' := 314) X474 hx (hb hby d1_313) rfl rfl rfl ?_
      refine own_aloadN (pc' := 315) X474 hx (hb hby d1_314) rfl rfl rfl ?_
      have f476 := (((((((((Fw428.other W432 (Or.inr (slot_ne (Or.inr (own_w hw 36 rfl)) (Or.inr (own_w hw 38 rfl)) (by decide) (t := .long) (t' := .long) (by decide +kernel) (by decide +kernel)))).other W435 (Or.inr (slot_ne (Or.inr (own_w hw 36 rfl)) (Or.inr (own_w hw 40 rfl)) (by decide) (t := .long) (t' := .int) (by decide +kernel) (by decide +kernel)))).other W438 (Or.inr (slot_ne (Or.inr (own_w hw 36 rfl)) (Or.inr (own_w hw 42 rfl)) (by decide) (t := .long) (t' := .int) (by decide +kernel) (by decide +kernel)))).other W442 (Or.inr (slot_ne (Or.inr (own_w hw 36 rfl)) (Or.inr (own_w hw 44 rfl)) (by decide) (t := .long) (t' := .int) (by decide +kernel) (by decide +kernel)))).other W446 (Or.inr (slot_ne (Or.inr (own_w hw 36 rfl)) (Or.inr (own_w hw 46 rfl)) (by decide) (t := .long) (t' := .int) (by decide +kernel) (by decide +kernel)))).other W450 (Or.inr (slot_ne (Or.inr (own_w hw 36 rfl)) (Or.inr (own_w hw 48 rfl)) (by decide) (t := .long) (t' := .int) (by decide +kernel) (by decide +kernel)))).other W458 (Or.inr (slot_ne (Or.inr (own_w hw 36 rfl)) (Or.inr (own_w hw 50 rfl)) (by decide) (t := .long) (t' := .long) (by decide +kernel) (by decide +kernel)))).other W466 (Or.inr (slot_ne (Or.inr (own_w hw 36 rfl)) (Or.inr (own_w hw 52 rfl)) (by decide) (t := .long) (t' := .long) (by decide +kernel) (by decide +kernel)))).other W474 (Or.inr (slot_ne (Or.inr (own_w hw 36 rfl)) (Or.inr (own_w hw 54 rfl)) (by decide) (t := .long) (t' := .long) (by decide +kernel) (by decide +kernel))))
      refine own_getF (pc' := 318) X474 hx hZ hown (host := "") (Or.inl (own_w hw 35 rfl)) Via.refl e474 f476 (hb hby d1_315) rfl ?_
      intro T477 X477 e477
      refine own_aloadN (pc' := 319) X477 hx (hb hby d1_318) rfl rfl rfl ?_
      have f478 := ((((Fw446.other W450 (Or.inr (slot_ne (Or.inr (own_w hw 46 rfl)) (Or.inr (own_w hw 48 rfl)) (by decide) (t := .int) (t' := .int) (by decide +kernel) (by decide +kernel)))).other W458 (Or.inr (slot_ne (Or.inr (own_w hw 46 rfl)) (Or.inr (own_w hw 50 rfl)) (by decide) (t := .int) (t' := .long) (by decide +kernel) (by decide +kernel)))).other W466 (Or.inr (slot_ne (Or.inr (own_w hw 46 rfl)) (Or.inr (own_w hw 52 rfl)) (by decide) (t := .int) (t' := .long) (by decide +kernel) (by decide +kernel)))).other W474 (Or.inr (slot_ne (Or.inr (own_w hw 46 rfl)) (Or.inr (own_w hw 54 rfl)) (by decide) (t := .int) (t' := .long) (by decide +kernel) (by decide +kernel))))
      refine own_getF (pc' := 322) X477 hx hZ hown (host := "") (Or.inl (own_w hw 45 rfl)) Via.refl e477 f478 (hb hby d1_319) rfl ?_
      intro T479 X479 e479
      refine own_lushr (pc' := 323) X479 hx (hb hby d1_322) rfl ?_
      have f480 := (((((((((((((((((((((((F_moved3.other W380 (Or.inr (slot_ne (Or.inr (own_w hw 56 rfl)) (Or.inr (own_w hw 16 rfl)) (by decide) (t := .long) (t' := .int) (by decide +kernel) (by decide +kernel)))).other W384 (Or.inr (slot_ne (Or.inr (own_w hw 56 rfl)) (Or.inr (own_w hw 19 rfl)) (by decide) (t := .long) (t' := .int) (by decide +kernel) (by decide +kernel)))).other W387 (Or.inr (slot_ne (Or.inr (own_w hw 56 rfl)) (Or.inr (own_w hw 21 rfl)) (by decide) (t := .long) (t' := .long) (by decide +kernel) (by decide +kernel)))).other W390 (Or.inr (slot_ne (Or.inr (own_w hw 56 rfl)) (Or.inr (own_w hw 23 rfl)) (by decide) (t := .long) (t' := .long) (by decide +kernel) (by decide +kernel)))).other W394 (Or.inr (slot_ne (Or.inr (own_w hw 56 rfl)) (Or.inr (own_w hw 25 rfl)) (by decide) (t := .long) (t' := .int) (by decide +kernel) (by decide +kernel)))).other W399 (Or.inr (slot_ne (Or.inr (own_w hw 56 rfl)) (Or.inr (own_w hw 27 rfl)) (by decide) (t := .long) (t' := .long) (by decide +kernel) (by decide +kernel)))).ext E401).keep K405 (ninS ne_a1_b401 nin0)).keep K408 (ninS ne_a1_b401 nin0)).keep K411 (ninS ne_a1_b401 nin0)).other W416 (Or.inr (slot_ne (Or.inr (own_w hw 56 rfl)) (Or.inr (own_w hw 30 rfl)) (by decide) (t := .long) (t' := .long) (by decide +kernel) (by decide +kernel)))).other W420 (Or.inr (slot_ne (Or.inr (own_w hw 56 rfl)) (Or.inr (own_w hw 32 rfl)) (by decide) (t := .long) (t' := .long) (by decide +kernel) (by decide +kernel)))).other W424 (Or.inr (slot_ne (Or.inr (own_w hw 56 rfl)) (Or.inr (own_w hw 34 rfl)) (by decide) (t := .long) (t' := .long) (by decide +kernel) (by decide +kernel)))).other W428 (Or.inr (slot_ne (Or.inr (own_w hw 56 rfl)) (Or.inr (own_w hw 36 rfl)) (by decide) (t := .long) (t' := .long) (by decide +kernel) (by decide +kernel)))).other W432 (Or.inr (slot_ne (Or.inr (own_w hw 56 rfl)) (Or.inr (own_w hw 38 rfl)) (by decide) (t := .long) (t' := .long) (by decide +kernel) (by decide +kernel)))).other W435 (Or.inr (slot_ne (Or.inr (own_w hw 56 rfl)) (Or.inr (own_w hw 40 rfl)) (by decide) (t := .long) (t' := .int) (by decide +kernel) (by decide +kernel)))).other W438 (Or.inr (slot_ne (Or.inr (own_w hw 56 rfl)) (Or.inr (own_w hw 42 rfl)) (by decide) (t := .long) (t' := .int) (by decide +kernel) (by decide +kernel)))).other W442 (Or.inr (slot_ne (Or.inr (own_w hw 56 rfl)) (Or.inr (own_w hw 44 rfl)) (by decide) (t := .long) (t' := .int) (by decide +kernel) (by decide +kernel)))).other W446 (Or.inr (slot_ne (Or.inr (own_w hw 56 rfl)) (Or.inr (own_w hw 46 rfl)) (by decide) (t := .long) (t' := .int) (by decide +kernel) (by decide +kernel)))).other W450 (Or.inr (slot_ne (Or.inr (own_w hw 56 rfl)) (Or.inr (own_w hw 48 rfl)) (by decide) (t := .long) (t' := .int) (by decide +kernel) (by decide +kernel)))).other W458 (Or.inr (slot_ne (Or.inr (own_w hw 56 rfl)) (Or.inr (own_w hw 50 rfl)) (by decide) (t := .long) (t' := .long) (by decide +kernel) (by decide +kernel)))).other W466 (Or.inr (slot_ne (Or.inr (own_w hw 56 rfl)) (Or.inr (own_w hw 52 rfl)) (by decide) (t := .long) (t' := .long) (by decide +kernel) (by decide +kernel)))).other W474 (Or.inr (slot_ne (Or.inr (own_w hw 56 rfl)) (Or.inr (own_w hw 54 rfl)) (by decide) (t := .long) (t' := .long) (by decide +kernel) (by decide +kernel))))
      have f481 := (f473.wr W474)
      obtain ⟨v483, hv483⟩ : ∃ z : Int64, z = (((0 : Int64).toUInt64 >>> (v447 &&& 0x3f).toInt64.toUInt64).toInt64) := ⟨_, rfl⟩
      rw [← hv483]
      refine own_putF (pc' := 326) X479 hx hZ hown (host := "") (Or.inl (own_w hw 55 rfl)) Via.refl e479 f480 f481 (Or.inr ⟨(own_w hw 56 rfl), rfl, hnm⟩) (own_w hw 2 rfl) (ty := .long) (by decide) rfl rfl (hb hby d1_323) rfl ?_
      intro T482 h482 X482 e482 W482
      have z482 : n0 ≤ h482.size := Nat.le_trans z474 (Keep.of_wr W482).1
      have Fw482 := f480.same W482
      have N482 := Fr.snoc X482 N474 g_a1
      have K482 : Keep h0 h482 [a1] := K474.wr W482 (Or.inl (List.mem_of_getElem? (i := 0) rfl))
      refine own_aloadN (pc' := 327) X482 hx (hb hby d1_326) rfl rfl rfl ?_
      refine own_aloadN (pc' := 328) X482 hx (hb hby d1_327) rfl rfl rfl ?_
      have f484 := (((((((((Fw432.other W435 (Or.inr (slot_ne (Or.inr (own_w hw 38 rfl)) (Or.inr (own_w hw 40 rfl)) (by decide) (t := .long) (t' := .int) (by decide +kernel) (by decide +kernel)))).other W438 (Or.inr (slot_ne (Or.inr (own_w hw 38 rfl)) (Or.inr (own_w hw 42 rfl)) (by decide) (t := .long) (t' := .int) (by decide +kernel) (by decide +kernel)))).other W442 (Or.inr (slot_ne (Or.inr (own_w hw 38 rfl)) (Or.inr (own_w hw 44 rfl)) (by decide) (t := .long) (t' := .int) (by decide +kernel) (by decide +kernel)))).other W446 (Or.inr (slot_ne (Or.inr (own_w hw 38 rfl)) (Or.inr (own_w hw 46 rfl)) (by decide) (t := .long) (t' := .int) (by decide +kernel) (by decide +kernel)))).other W450 (Or.inr (slot_ne (Or.inr (own_w hw 38 rfl)) (Or.inr (own_w hw 48 rfl)) (by decide) (t := .long) (t' := .int) (by decide +kernel) (by decide +kernel)))).other W458 (Or.inr (slot_ne (Or.inr (own_w hw 38 rfl)) (Or.inr (own_w hw 50 rfl)) (by decide) (t := .long) (t' := .long) (by decide +kernel) (by decide +kernel)))).other W466 (Or.inr (slot_ne (Or.inr (own_w hw 38 rfl)) (Or.inr (own_w hw 52 rfl)) (by decide) (t := .long) (t' := .long) (by decide +kernel) (by decide +kernel)))).other W474 (Or.inr (slot_ne (Or.inr (own_w hw 38 rfl)) (Or.inr (own_w hw 54 rfl)) (by decide) (t := .long) (t' := .long) (by decide +kernel) (by decide +kernel)))).other W482 (Or.inr (slot_ne (Or.inr (own_w hw 38 rfl)) (Or.inr (own_w hw 56 rfl)) (by decide) (t := .long) (t' := .long) (by decide +kernel) (by decide +kernel))))
      refine own_getF (pc' := 331) X482 hx hZ hown (host := "") (Or.inl (own_w hw 37 rfl)) Via.refl e482 f484 (hb hby d1_328) rfl ?_
      intro T485 X485 e485
      refine own_aloadN (pc' := 332) X485 hx (hb hby d1_331) rfl rfl rfl ?_
      have f486 := ((((Fw450.other W458 (Or.inr (slot_ne (Or.inr (own_w hw 48 rfl)) (Or.inr (own_w hw 50 rfl)) (by decide) (t := .int) (t' := .long) (by decide +kernel) (by decide +kernel)))).other W466 (Or.inr (slot_ne (Or.inr (own_w hw 48 rfl)) (Or.inr (own_w hw 52 rfl)) (by decide) (t := .int) (t' := .long) (by decide +kernel) (by decide +kernel)))).other W474 (Or.inr (slot_ne (Or.inr (own_w hw 48 rfl)) (Or.inr (own_w hw 54 rfl)) (by decide) (t := .int) (t' := .long) (by decide +kernel) (by decide +kernel)))).other W482 (Or.inr (slot_ne (Or.inr (own_w hw 48 rfl)) (Or.inr (own_w hw 56 rfl)) (by decide) (t := .int) (t' := .long) (by decide +kernel) (by decide +kernel))))
      refine own_getF (pc' := 335) X485 hx hZ hown (host := "") (Or.inl (own_w hw 47 rfl)) Via.refl e485 f486 (hb hby d1_332) rfl ?_
      intro T487 X487 e487
      refine own_lushr (pc' := 336) X487 hx (hb hby d1_335) rfl ?_
      have f488 := ((((((((((((((((((((((((F_moved4.other W380 (Or.inr (slot_ne (Or.inr (own_w hw 58 rfl)) (Or.inr (own_w hw 16 rfl)) (by decide) (t := .long) (t' := .int) (by decide +kernel) (by decide +kernel)))).other W384 (Or.inr (slot_ne (Or.inr (own_w hw 58 rfl)) (Or.inr (own_w hw 19 rfl)) (by decide) (t := .long) (t' := .int) (by decide +kernel) (by decide +kernel)))).other W387 (Or.inr (slot_ne (Or.inr (own_w hw 58 rfl)) (Or.inr (own_w hw 21 rfl)) (by decide) (t := .long) (t' := .long) (by decide +kernel) (by decide +kernel)))).other W390 (Or.inr (slot_ne (Or.inr (own_w hw 58 rfl)) (Or.inr (own_w hw 23 rfl)) (by decide) (t := .long) (t' := .long) (by decide +kernel) (by decide +kernel)))).other W394 (Or.inr (slot_ne (Or.inr (own_w hw 58 rfl)) (Or.inr (own_w hw 25 rfl)) (by decide) (t := .long) (t' := .int) (by decide +kernel) (by decide +kernel)))).other W399 (Or.inr (slot_ne (Or.inr (own_w hw 58 rfl)) (Or.inr (own_w hw 27 rfl)) (by decide) (t := .long) (t' := .long) (by decide +kernel) (by decide +kernel)))).ext E401).keep K405 (ninS ne_a1_b401 nin0)).keep K408 (ninS ne_a1_b401 nin0)).keep K411 (ninS ne_a1_b401 nin0)).other W416 (Or.inr (slot_ne (Or.inr (own_w hw 58 rfl)) (Or.inr (own_w hw 30 rfl)) (by decide) (t := .long) (t' := .long) (by decide +kernel) (by decide +kernel)))).other W420 (Or.inr (slot_ne (Or.inr (own_w hw 58 rfl)) (Or.inr (own_w hw 32 rfl)) (by decide) (t := .long) (t' := .long) (by decide +kernel) (by decide +kernel)))).other W424 (Or.inr (slot_ne (Or.inr (own_w hw 58 rfl)) (Or.inr (own_w hw 34 rfl)) (by decide) (t := .long) (t' := .long) (by decide +kernel) (by decide +kernel)))).other W428 (Or.inr (slot_ne (Or.inr (own_w hw 58 rfl)) (Or.inr (own_w hw 36 rfl)) (by decide) (t := .long) (t' := .long) (by decide +kernel) (by decide +kernel)))).other W432 (Or.inr (slot_ne (Or.inr (own_w hw 58 rfl)) (Or.inr (own_w hw 38 rfl)) (by decide) (t := .long) (t' := .long) (by decide +kernel) (by decide +kernel)))).other W435 (Or.inr (slot_ne (Or.inr (own_w hw 58 rfl)) (Or.inr (own_w hw 40 rfl)) (by decide) (t := .long) (t' := .int) (by decide +kernel) (by decide +kernel)))).other W438 (Or.inr (slot_ne (Or.inr (own_w hw 58 rfl)) (Or.inr (own_w hw 42 rfl)) (by decide) (t := .long) (t' := .int) (by decide +kernel) (by decide +kernel)))).other W442 (Or.inr (slot_ne (Or.inr (own_w hw 58 rfl)) (Or.inr (own_w hw 44 rfl)) (by decide) (t := .long) (t' := .int) (by decide +kernel) (by decide +kernel)))).other W446 (Or.inr (slot_ne (Or.inr (own_w hw 58 rfl)) (Or.inr (own_w hw 46 rfl)) (by decide) (t := .long) (t' := .int) (by decide +kernel) (by decide +kernel)))).other W450 (Or.inr (slot_ne (Or.inr (own_w hw 58 rfl)) (Or.inr (own_w hw 48 rfl)) (by decide) (t := .long) (t' := .int) (by decide +kernel) (by decide +kernel)))).other W458 (Or.inr (slot_ne (Or.inr (own_w hw 58 rfl)) (Or.inr (own_w hw 50 rfl)) (by decide) (t := .long) (t' := .long) (by decide +kernel) (by decide +kernel)))).other W466 (Or.inr (slot_ne (Or.inr (own_w hw 58 rfl)) (Or.inr (own_w hw 52 rfl)) (by decide) (t := .long) (t' := .long) (by decide +kernel) (by decide +kernel)))).other W474 (Or.inr (slot_ne (Or.inr (own_w hw 58 rfl)) (Or.inr (own_w hw 54 rfl)) (by decide) (t := .long) (t' := .long) (by decide +kernel) (by decide +kernel)))).other W482 (Or.inr (slot_ne (Or.inr (own_w hw 58 rfl)) (Or.inr (own_w hw 56 rfl)) (by decide) (t := .long) (t' := .long) (by decide +kernel) (by decide +kernel))))
      have f489 := (f481.wr W482)
      obtain ⟨v491, hv491⟩ : ∃ z : Int64, z = (((0 : Int64).toUInt64 >>> (v451 &&& 0x3f).toInt64.toUInt64).toInt64) := ⟨_, rfl⟩
      rw [← hv491]
      refine own_putF (pc' := 339) X487 hx hZ hown (host := "") (Or.inl (own_w hw 57 rfl)) Via.refl e487 f488 f489 (Or.inr ⟨(own_w hw 58 rfl), rfl, hnm⟩) (own_w hw 2 rfl) (ty := .long) (by decide) rfl rfl (hb hby d1_336) rfl ?_
      intro T490 h490 X490 e490 W490
      have z490 : n0 ≤ h490.size := Nat.le_trans z482 (Keep.of_wr W490).1
      have Fw490 := f488.same W490
      have N490 := Fr.snoc X490 N482 g_a1
      have K490 : Keep h0 h490 [a1] := K482.wr W490 (Or.inl (List.mem_of_getElem? (i := 0) rfl))
      have f492 := (((((((((((((((((((((((Fw384.other W387 (Or.inr (slot_ne (Or.inr (own_w hw 19 rfl)) (Or.inr (own_w hw 21 rfl)) (by decide) (t := .int) (t' := .long) (by decide +kernel) (by decide +kernel)))).other W390 (Or.inr (slot_ne (Or.inr (own_w hw 19 rfl)) (Or.inr (own_w hw 23 rfl)) (by decide) (t := .int) (t' := .long) (by decide +kernel) (by decide +kernel)))).other W394 (Or.inr (slot_ne (Or.inr (own_w hw 19 rfl)) (Or.inr (own_w hw 25 rfl)) (by decide) (t := .int) (t' := .int) (by decide +kernel) (by decide +kernel)))).other W399 (Or.inr (slot_ne (Or.inr (own_w hw 19 rfl)) (Or.inr (own_w hw 27 rfl)) (by decide) (t := .int) (t' := .long) (by decide +kernel) (by decide +kernel)))).ext E401).keep K405 (ninS ne_a1_b401 nin0)).keep K408 (ninS ne_a1_b401 nin0)).keep K411 (ninS ne_a1_b401 nin0)).other W416 (Or.inr (slot_ne (Or.inr (own_w hw 19 rfl)) (Or.inr (own_w hw 30 rfl)) (by decide) (t := .int) (t' := .long) (by decide +kernel) (by decide +kernel)))).other W420 (Or.inr (slot_ne (Or.inr (own_w hw 19 rfl)) (Or.inr (own_w hw 32 rfl)) (by decide) (t := .int) (t' := .long) (by decide +kernel) (by decide +kernel)))).other W424 (Or.inr (slot_ne (Or.inr (own_w hw 19 rfl)) (Or.inr (own_w hw 34 rfl)) (by decide) (t := .int) (t' := .long) (by decide +kernel) (by decide +kernel)))).other W428 (Or.inr (slot_ne (Or.inr (own_w hw 19 rfl)) (Or.inr (own_w hw 36 rfl)) (by decide) (t := .int) (t' := .long) (by decide +kernel) (by decide +kernel)))).other W432 (Or.inr (slot_ne (Or.inr (own_w hw 19 rfl)) (Or.inr (own_w hw 38 rfl)) (by decide) (t := .int) (t' := .long) (by decide +kernel) (by decide +kernel)))).other W435 (Or.inr (slot_ne (Or.inr (own_w hw 19 rfl)) (Or.inr (own_w hw 40 rfl)) (by decide) (t := .int) (t' := .int) (by decide +kernel) (by decide +kernel)))).other W438 (Or.inr (slot_ne (Or.inr (own_w hw 19 rfl)) (Or.inr (own_w hw 42 rfl)) (by decide) (t := .int) (t' := .int) (by decide +kernel) (by decide +kernel)))).other W442 (Or.inr (slot_ne (Or.inr (own_w hw 19 rfl)) (Or.inr (own_w hw 44 rfl)) (by decide) (t := .int) (t' := .int) (by decide +kernel) (by decide +kernel)))).other W446 (Or.inr (slot_ne (Or.inr (own_w hw 19 rfl)) (Or.inr (own_w hw 46 rfl)) (by decide) (t := .int) (t' := .int) (by decide +kernel) (by decide +kernel)))).other W450 (Or.inr (slot_ne (Or.inr (own_w hw 19 rfl)) (Or.inr (own_w hw 48 rfl)) (by decide) (t := .int) (t' := .int) (by decide +kernel) (by decide +kernel)))).other W458 (Or.inr (slot_ne (Or.inr (own_w hw 19 rfl)) (Or.inr (own_w hw 50 rfl)) (by decide) (t := .int) (t' := .long) (by decide +kernel) (by decide +kernel)))).other W466 (Or.inr (slot_ne (Or.inr (own_w hw 19 rfl)) (Or.inr (own_w hw 52 rfl)) (by decide) (t := .int) (t' := .long) (by decide +kernel) (by decide +kernel)))).other W474 (Or.inr (slot_ne (Or.inr (own_w hw 19 rfl)) (Or.inr (own_w hw 54 rfl)) (by decide) (t := .int) (t' := .long) (by decide +kernel) (by decide +kernel)))).other W482 (Or.inr (slot_ne (Or.inr (own_w hw 19 rfl)) (Or.inr (own_w hw 56 rfl)) (by decide) (t := .int) (t' := .long) (by decide +kernel) (by decide +kernel)))).other W490 (Or.inr (slot_ne (Or.inr (own_w hw 19 rfl)) (Or.inr (own_w hw 58 rfl)) (by decide) (t := .int) (t' := .long) (by decide +kernel) (by decide +kernel))))
      have f493 := ((((((((((((((((((((((Fw387.other W390 (Or.inr (slot_ne (Or.inr (own_w hw 21 rfl)) (Or.inr (own_w hw 23 rfl)) (by decide) (t := .long) (t' := .long) (by decide +kernel) (by decide +kernel)))).other W394 (Or.inr (slot_ne (Or.inr (own_w hw 21 rfl)) (Or.inr (own_w hw 25 rfl)) (by decide) (t := .long) (t' := .int) (by decide +kernel) (by decide +kernel)))).other W399 (Or.inr (slot_ne (Or.inr (own_w hw 21 rfl)) (Or.inr (own_w hw 27 rfl)) (by decide) (t := .long) (t' := .long) (by decide +kernel) (by decide +kernel)))).ext E401).keep K405 (ninS ne_a1_b401 nin0)).keep K408 (ninS ne_a1_b401 nin0)).keep K411 (ninS ne_a1_b401 nin0)).other W416 (Or.inr (slot_ne (Or.inr (own_w hw 21 rfl)) (Or.inr (own_w hw 30 rfl)) (by decide) (t := .long) (t' := .long) (by decide +kernel) (by decide +kernel)))).other W420 (Or.inr (slot_ne (Or.inr (own_w hw 21 rfl)) (Or.inr (own_w hw 32 rfl)) (by decide) (t := .long) (t' := .long) (by decide +kernel) (by decide +kernel)))).other W424 (Or.inr (slot_ne (Or.inr (own_w hw 21 rfl)) (Or.inr (own_w hw 34 rfl)) (by decide) (t := .long) (t' := .long) (by decide +kernel) (by decide +kernel)))).other W428 (Or.inr (slot_ne (Or.inr (own_w hw 21 rfl)) (Or.inr (own_w hw 36 rfl)) (by decide) (t := .long) (t' := .long) (by decide +kernel) (by decide +kernel)))).other W432 (Or.inr (slot_ne (Or.inr (own_w hw 21 rfl)) (Or.inr (own_w hw 38 rfl)) (by decide) (t := .long) (t' := .long) (by decide +kernel) (by decide +kernel)))).other W435 (Or.inr (slot_ne (Or.inr (own_w hw 21 rfl)) (Or.inr (own_w hw 40 rfl)) (by decide) (t := .long) (t' := .int) (by decide +kernel) (by decide +kernel)))).other W438 (Or.inr (slot_ne (Or.inr (own_w hw 21 rfl)) (Or.inr (own_w hw 42 rfl)) (by decide) (t := .long) (t' := .int) (by decide +kernel) (by decide +kernel)))).other W442 (Or.inr (slot_ne (Or.inr (own_w hw 21 rfl)) (Or.inr (own_w hw 44 rfl)) (by decide) (t := .long) (t' := .int) (by decide +kernel) (by decide +kernel)))).other W446 (Or.inr (slot_ne (Or.inr (own_w hw 21 rfl)) (Or.inr (own_w hw 46 rfl)) (by decide) (t := .long) (t' := .int) (by decide +kernel) (by decide +kernel)))).other W450 (Or.inr (slot_ne (Or.inr (own_w hw 21 rfl)) (Or.inr (own_w hw 48 rfl)) (by decide) (t := .long) (t' := .int) (by decide +kernel) (by decide +kernel)))).other W458 (Or.inr (slot_ne (Or.inr (own_w hw 21 rfl)) (Or.inr (own_w hw 50 rfl)) (by decide) (t := .long) (t' := .long) (by decide +kernel) (by decide +kernel)))).other W466 (Or.inr (slot_ne (Or.inr (own_w hw 21 rfl)) (Or.inr (own_w hw 52 rfl)) (by decide) (t := .long) (t' := .long) (by decide +kernel) (by decide +kernel)))).other W474 (Or.inr (slot_ne (Or.inr (own_w hw 21 rfl)) (Or.inr (own_w hw 54 rfl)) (by decide) (t := .long) (t' := .long) (by decide +kernel) (by decide +kernel)))).other W482 (Or.inr (slot_ne (Or.inr (own_w hw 21 rfl)) (Or.inr (own_w hw 56 rfl)) (by decide) (t := .long) (t' := .long) (by decide +kernel) (by decide +kernel)))).other W490 (Or.inr (slot_ne (Or.inr (own_w hw 21 rfl)) (Or.inr (own_w hw 58 rfl)) (by decide) (t := .long) (t' := .long) (by decide +kernel) (by decide +kernel))))
      have f494 := (((((((((((((((((((Fw399.ext E401).keep K405 (ninS ne_a1_b401 nin0)).keep K408 (ninS ne_a1_b401 nin0)).keep K411 (ninS ne_a1_b401 nin0)).other W416 (Or.inr (slot_ne (Or.inr (own_w hw 27 rfl)) (Or.inr (own_w hw 30 rfl)) (by decide) (t := .long) (t' := .long) (by decide +kernel) (by decide +kernel)))).other W420 (Or.inr (slot_ne (Or.inr (own_w hw 27 rfl)) (Or.inr (own_w hw 32 rfl)) (by decide) (t := .long) (t' := .long) (by decide +kernel) (by decide +kernel)))).other W424 (Or.inr (slot_ne (Or.inr (own_w hw 27 rfl)) (Or.inr (own_w hw 34 rfl)) (by decide) (t := .long) (t' := .long) (by decide +kernel) (by decide +kernel)))).other W428 (Or.inr (slot_ne (Or.inr (own_w hw 27 rfl)) (Or.inr (own_w hw 36 rfl)) (by decide) (t := .long) (t' := .long) (by decide +kernel) (by decide +kernel)))).other W432 (Or.inr (slot_ne (Or.inr (own_w hw 27 rfl)) (Or.inr (own_w hw 38 rfl)) (by decide) (t := .long) (t' := .long) (by decide +kernel) (by decide +kernel)))).other W435 (Or.inr (slot_ne (Or.inr (own_w hw 27 rfl)) (Or.inr (own_w hw 40 rfl)) (by decide) (t := .long) (t' := .int) (by decide +kernel) (by decide +kernel)))).other W438 (Or.inr (slot_ne (Or.inr (own_w hw 27 rfl)) (Or.inr (own_w hw 42 rfl)) (by decide) (t := .long) (t' := .int) (by decide +kernel) (by decide +kernel)))).other W442 (Or.inr (slot_ne (Or.inr (own_w hw 27 rfl)) (Or.inr (own_w hw 44 rfl)) (by decide) (t := .long) (t' := .int) (by decide +kernel) (by decide +kernel)))).other W446 (Or.inr (slot_ne (Or.inr (own_w hw 27 rfl)) (Or.inr (own_w hw 46 rfl)) (by decide) (t := .long) (t' := .int) (by decide +kernel) (by decide +kernel)))).other W450 (Or.inr (slot_ne (Or.inr (own_w hw 27 rfl)) (Or.inr (own_w hw 48 rfl)) (by decide) (t := .long) (t' := .int) (by decide +kernel) (by decide +kernel)))).other W458 (Or.inr (slot_ne (Or.inr (own_w hw 27 rfl)) (Or.inr (own_w hw 50 rfl)) (by decide) (t := .long) (t' := .long) (by decide +kernel) (by decide +kernel)))).other W466 (Or.inr (slot_ne (Or.inr (own_w hw 27 rfl)) (Or.inr (own_w hw 52 rfl)) (by decide) (t := .long) (t' := .long) (by decide +kernel) (by decide +kernel)))).other W474 (Or.inr (slot_ne (Or.inr (own_w hw 27 rfl)) (Or.inr (own_w hw 54 rfl)) (by decide) (t := .long) (t' := .long) (by decide +kernel) (by decide +kernel)))).other W482 (Or.inr (slot_ne (Or.inr (own_w hw 27 rfl)) (Or.inr (own_w hw 56 rfl)) (by decide) (t := .long) (t' := .long) (by decide +kernel) (by decide +kernel)))).other W490 (Or.inr (slot_ne (Or.inr (own_w hw 27 rfl)) (Or.inr (own_w hw 58 rfl)) (by decide) (t := .long) (t' := .long) (by decide +kernel) (by decide +kernel))))
      have f495 := (((((((((((((((f412.other W416 (Or.inr (slot_ne (Or.inr (own_w hw 16 rfl)) (Or.inr (own_w hw 30 rfl)) (by decide) (t := .int) (t' := .long) (by decide +kernel) (by decide +kernel)))).other W420 (Or.inr (slot_ne (Or.inr (own_w hw 16 rfl)) (Or.inr (own_w hw 32 rfl)) (by decide) (t := .int) (t' := .long) (by decide +kernel) (by decide +kernel)))).other W424 (Or.inr (slot_ne (Or.inr (own_w hw 16 rfl)) (Or.inr (own_w hw 34 rfl)) (by decide) (t := .int) (t' := .long) (by decide +kernel) (by decide +kernel)))).other W428 (Or.inr (slot_ne (Or.inr (own_w hw 16 rfl)) (Or.inr (own_w hw 36 rfl)) (by decide) (t := .int) (t' := .long) (by decide +kernel) (by decide +kernel)))).other W432 (Or.inr (slot_ne (Or.inr (own_w hw 16 rfl)) (Or.inr (own_w hw 38 rfl)) (by decide) (t := .int) (t' := .long) (by decide +kernel) (by decide +kernel)))).other W435 (Or.inr (slot_ne (Or.inr (own_w hw 16 rfl)) (Or.inr (own_w hw 40 rfl)) (by decide) (t := .int) (t' := .int) (by decide +kernel) (by decide +kernel)))).other W438 (Or.inr (slot_ne (Or.inr (own_w hw 16 rfl)) (Or.inr (own_w hw 42 rfl)) (by decide) (t := .int) (t' := .int) (by decide +kernel) (by decide +kernel)))).other W442 (Or.inr (slot_ne (Or.inr (own_w hw 16 rfl)) (Or.inr (own_w hw 44 rfl)) (by decide) (t := .int) (t' := .int) (by decide +kernel) (by decide +kernel)))).other W446 (Or.inr (slot_ne (Or.inr (own_w hw 16 rfl)) (Or.inr (own_w hw 46 rfl)) (by decide) (t := .int) (t' := .int) (by decide +kernel) (by decide +kernel)))).other W450 (Or.inr (slot_ne (Or.inr (own_w hw 16 rfl)) (Or.inr (own_w hw 48 rfl)) (by decide) (t := .int) (t' := .int) (by decide +kernel) (by decide +kernel)))).other W458 (Or.inr (slot_ne (Or.inr (own_w hw 16 rfl)) (Or.inr (own_w hw 50 rfl)) (by decide) (t := .int) (t' := .long) (by decide +kernel) (by decide +kernel)))).other W466 (Or.inr (slot_ne (Or.inr (own_w hw 16 rfl)) (Or.inr (own_w hw 52 rfl)) (by decide) (t := .int) (t' := .long) (by decide +kernel) (by decide +kernel)))).other W474 (Or.inr (slot_ne (Or.inr (own_w hw 16 rfl)) (Or.inr (own_w hw 54 rfl)) (by decide) (t := .int) (t' := .long) (by decide +kernel) (by decide +kernel)))).other W482 (Or.inr (slot_ne (Or.inr (own_w hw 16 rfl)) (Or.inr (own_w hw 56 rfl)) (by decide) (t := .int) (t' := .long) (by decide +kernel) (by decide +kernel)))).other W490 (Or.inr (slot_ne (Or.inr (own_w hw 16 rfl)) (Or.inr (own_w hw 58 rfl)) (by decide) (t := .int) (t' := .long) (by decide +kernel) (by decide +kernel))))
      have f496 := (((((f452.other W458 (Or.inr (slot_ne (Or.inr (own_w hw 30 rfl)) (Or.inr (own_w hw 50 rfl)) (by decide) (t := .long) (t' := .long) (by decide +kernel) (by decide +kernel)))).other W466 (Or.inr (slot_ne (Or.inr (own_w hw 30 rfl)) (Or.inr (own_w hw 52 rfl)) (by decide) (t := .long) (t' := .long) (by decide +kernel) (by decide +kernel)))).other W474 (Or.inr (slot_ne (Or.inr (own_w hw 30 rfl)) (Or.inr (own_w hw 54 rfl)) (by decide) (t := .long) (t' := .long) (by decide +kernel) (by decide +kernel)))).other W482 (Or.inr (slot_ne (Or.inr (own_w hw 30 rfl)) (Or.inr (own_w hw 56 rfl)) (by decide) (t := .long) (t' := .long) (by decide +kernel) (by decide +kernel)))).other W490 (Or.inr (slot_ne (Or.inr (own_w hw 30 rfl)) (Or.inr (own_w hw 58 rfl)) (by decide) (t := .long) (t' := .long) (by decide +kernel) (by decide +kernel))))
      have f497 := ((((f460.other W466 (Or.inr (slot_ne (Or.inr (own_w hw 32 rfl)) (Or.inr (own_w hw 52 rfl)) (by decide) (t := .long) (t' := .long) (by decide +kernel) (by decide +kernel)))).other W474 (Or.inr (slot_ne (Or.inr (own_w hw 32 rfl)) (Or.inr (own_w hw 54 rfl)) (by decide) (t := .long) (t' := .long) (by decide +kernel) (by decide +kernel)))).other W482 (Or.inr (slot_ne (Or.inr (own_w hw 32 rfl)) (Or.inr (own_w hw 56 rfl)) (by decide) (t := .long) (t' := .long) (by decide +kernel) (by decide +kernel)))).other W490 (Or.inr (slot_ne (Or.inr (own_w hw 32 rfl)) (Or.inr (own_w hw 58 rfl)) (by decide) (t := .long) (t' := .long) (by decide +kernel) (by decide +kernel))))
      have f498 := (((f468.other W474 (Or.inr (slot_ne (Or.inr (own_w hw 34 rfl)) (Or.inr (own_w hw 54 rfl)) (by decide) (t := .long) (t' := .long) (by decide +kernel) (by decide +kernel)))).other W482 (Or.inr (slot_ne (Or.inr (own_w hw 34 rfl)) (Or.inr (own_w hw 56 rfl)) (by decide) (t := .long) (t' := .long) (by decide +kernel) (by decide +kernel)))).other W490 (Or.inr (slot_ne (Or.inr (own_w hw 34 rfl)) (Or.inr (own_w hw 58 rfl)) (by decide) (t := .long) (t' := .long) (by decide +kernel) (by decide +kernel))))
      have f499 := ((f476.other W482 (Or.inr (slot_ne (Or.inr (own_w hw 36 rfl)) (Or.inr (own_w hw 56 rfl)) (by decide) (t := .long) (t' := .long) (by decide +kernel) (by decide +kernel)))).other W490 (Or.inr (slot_ne (Or.inr (own_w hw 36 rfl)) (Or.inr (own_w hw 58 rfl)) (by decide) (t := .long) (t' := .long) (by decide +kernel) (by decide +kernel))))
      have f500 := (f484.other W490 (Or.inr (slot_ne (Or.inr (own_w hw 38 rfl)) (Or.inr (own_w hw 58 rfl)) (by decide) (t := .long) (t' := .long) (by decide +kernel) (by decide +kernel))))
      have f501 := ((((Fw458.other W466 (Or.inr (slot_ne (Or.inr (own_w hw 50 rfl)) (Or.inr (own_w hw 52 rfl)) (by decide) (t := .long) (t' := .long) (by decide +kernel) (by decide +kernel)))).other W474 (Or.inr (slot_ne (Or.inr (own_w hw 50 rfl)) (Or.inr (own_w hw 54 rfl)) (by decide) (t := .long) (t' := .long) (by decide +kernel) (by decide +kernel)))).other W482 (Or.inr (slot_ne (Or.inr (own_w hw 50 rfl)) (Or.inr (own_w hw 56 rfl)) (by decide) (t := .long) (t' := .long) (by decide +kernel) (by decide +kernel)))).other W490 (Or.inr (slot_ne (Or.inr (own_w hw 50 rfl)) (Or.inr (own_w hw 58 rfl)) (by decide) (t := .long) (t' := .long) (by decide +kernel) (by decide +kernel))))
      have f502 := (((Fw466.other W474 (Or.inr (slot_ne (Or.inr (own_w hw 52 rfl)) (Or.inr (own_w hw 54 rfl)) (by decide) (t := .long) (t' := .long) (by decide +kernel) (by decide +kernel)))).other W482 (Or.inr (slot_ne (Or.inr (own_w hw 52 rfl)) (Or.inr (own_w hw 56 rfl)) (by decide) (t := .long) (t' := .long) (by decide +kernel) (by decide +kernel)))).other W490 (Or.inr (slot_ne (Or.inr (own_w hw 52 rfl)) (Or.inr (own_w hw 58 rfl)) (by decide) (t := .long) (t' := .long) (by decide +kernel) (by decide +kernel))))
      have f503 := ((Fw474.other W482 (Or.inr (slot_ne (Or.inr (own_w hw 54 rfl)) (Or.inr (own_w hw 56 rfl)) (by decide) (t := .long) (t' := .long) (by decide +kernel) (by decide +kernel)))).other W490 (Or.inr (slot_ne (Or.inr (own_w hw 54 rfl)) (Or.inr (own_w hw 58 rfl)) (by decide) (t := .long) (t' := .long) (by decide +kernel) (by decide +kernel))))
      have f504 := (Fw482.other W490 (Or.inr (slot_ne (Or.inr (own_w hw 56 rfl)) (Or.inr (own_w hw 58 rfl)) (by decide) (t := .long) (t' := .long) (by decide +kernel) (by decide +kernel))))
      have f505 := (((((f454.other W458 (Or.inr (slot_ne (Or.inr (own_w hw 40 rfl)) (Or.inr (own_w hw 50 rfl)) (by decide) (t := .int) (t' := .long) (by decide +kernel) (by decide +kernel)))).other W466 (Or.inr (slot_ne (Or.inr (own_w hw 40 rfl)) (Or.inr (own_w hw 52 rfl)) (by decide) (t := .int) (t' := .long) (by decide +kernel) (by decide +kernel)))).other W474 (Or.inr (slot_ne (Or.inr (own_w hw 40 rfl)) (Or.inr (own_w hw 54 rfl)) (by decide) (t := .int) (t' := .long) (by decide +kernel) (by decide +kernel)))).other W482 (Or.inr (slot_ne (Or.inr (own_w hw 40 rfl)) (Or.inr (own_w hw 56 rfl)) (by decide) (t := .int) (t' := .long) (by decide +kernel) (by decide +kernel)))).other W490 (Or.inr (slot_ne (Or.inr (own_w hw 40 rfl)) (Or.inr (own_w hw 58 rfl)) (by decide) (t := .int) (t' := .long) (by decide +kernel) (by decide +kernel))))
      have f506 := ((((f462.other W466 (Or.inr (slot_ne (Or.inr (own_w hw 42 rfl)) (Or.inr (own_w hw 52 rfl)) (by decide) (t := .int) (t' := .long) (by decide +kernel) (by decide +kernel)))).other W474 (Or.inr (slot_ne (Or.inr (own_w hw 42 rfl)) (Or.inr (own_w hw 54 rfl)) (by decide) (t := .int) (t' := .long) (by decide +kernel) (by decide +kernel)))).other W482 (Or.inr (slot_ne (Or.inr (own_w hw 42 rfl)) (Or.inr (own_w hw 56 rfl)) (by decide) (t := .int) (t' := .long) (by decide +kernel) (by decide +kernel)))).other W490 (Or.inr (slot_ne (Or.inr (own_w hw 42 rfl)) (Or.inr (own_w hw 58 rfl)) (by decide) (t := .int) (t' := .long) (by decide +kernel) (by decide +kernel))))
      have f507 := (((f470.other W474 (Or.inr (slot_ne (Or.inr (own_w hw 44 rfl)) (Or.inr (own_w hw 54 rfl)) (by decide) (t := .int) (t' := .long) (by decide +kernel) (by decide +kernel)))).other W482 (Or.inr (slot_ne (Or.inr (own_w hw 44 rfl)) (Or.inr (own_w hw 56 rfl)) (by decide) (t := .int) (t' := .long) (by decide +kernel) (by decide +kernel)))).other W490 (Or.inr (slot_ne (Or.inr (own_w hw 44 rfl)) (Or.inr (own_w hw 58 rfl)) (by decide) (t := .int) (t' := .long) (by decide +kernel) (by decide +kernel))))
      have f508 := ((f478.other W482 (Or.inr (slot_ne (Or.inr (own_w hw 46 rfl)) (Or.inr (own_w hw 56 rfl)) (by decide) (t := .int) (t' := .long) (by decide +kernel) (by decide +kernel)))).other W490 (Or.inr (slot_ne (Or.inr (own_w hw 46 rfl)) (Or.inr (own_w hw 58 rfl)) (by decide) (t := .int) (t' := .long) (by decide +kernel) (by decide +kernel))))
      have f509 := (f486.other W490 (Or.inr (slot_ne (Or.inr (own_w hw 48 rfl)) (Or.inr (own_w hw 58 rfl)) (by decide) (t := .int) (t' := .long) (by decide +kernel) (by decide +kernel))))
      have f510 := (f489.wr W490)
      refine own_ret0 X490 hx hlk hret (hb hby d1_339) (by decide) (by decide) ?_
      rw [e490]
      have hlow : ∀ x, own_bit v400 x = decide (x < nn * wn) := by rw [hv400]; exact own_wbq _ _ (by rw [hv395]; exact own_mulN hN hW (by omega)) (by have := Nat.mul_le_mul hn1 hw1; omega) hcn
      have hd0 : v2.toBitVec.toNat % 64 = 2 ^ 0 * (pn - wn) := by have q := own_shq _ _ hG; have lt0 := (own_dlt hsp hw1 (hRP.2.2 0 (by decide))); show v2.toBitVec.toNat % 64 = 2 ^ 0 * (pn - wn); rw [q]; omega
      have hd1 : v439.toBitVec.toNat % 64 = 2 ^ 1 * (pn - wn) := by rw [hv439]; exact own_dist _ _ 1 _ (by decide) (by decide) hG (own_dlt hsp hw1 (hRP.2.2 1 (by decide)))
      have hd2 : v443.toBitVec.toNat % 64 = 2 ^ 2 * (pn - wn) := by rw [hv443]; exact own_dist _ _ 2 _ (by decide) (by decide) hG (own_dlt hsp hw1 (hRP.2.2 2 (by decide)))
      have hWM : own_WM wn pn nn 3 vS v400 (own_5 mv405 mv408 mv411 (0 : Int64) (0 : Int64)) (own_5 v459 v467 v475 v483 v491) (own_5 v2 v439 v443 v447 v451) := by
        refine ⟨hRP, hUS, hlow, fun r hr => ?_⟩
        rcases (show r = 0 ∨ r = 1 ∨ r = 2 by omega) with rfl | rfl | rfl
        · exact ⟨hU405, hv459, hd0⟩
        · exact ⟨hU408, hv467, hd1⟩
        · exact ⟨hU411, hv475, hd2⟩
      exact ⟨3, _, _, _, _, _, _, _, _, _, _, _, _, _, _, _, _, _, _, by decide, hWM, rfl, N490, K490, f510, f492, f493, f494, f495, f496, f497, f498, f499, f500, f501, f502, f503, f504, Fw490, f505, f506, f507, f508, f509⟩
    · obtain rfl : jr = (4 : Int32) := Int32.toInt_inj.mp (hRR.trans (by decide))
      show own_WP _ _ _ _ _ _ _ (T4.setTop (mkF m 29 #[.val (.ref a1), .val (.int st), .val (.int w), .val (.int p'), .val (.int n'), .val (.int v2), .unset, .unset, .unset, .unset, .unset, .unset, .unset, .unset] [(.int (4 : Int32)), (.ref a1)]))
      refine own_putF (pc' := 32) X4 hx hZ hown (host := "") (Or.inl (own_w hw 15 rfl)) Via.refl e4 F_rounds E1 (Or.inr ⟨(own_w hw 16 rfl), rfl, hnm⟩) (own_w hw 2 rfl) (ty := .int) (by decide) rfl rfl (hb hby d1_29) rfl ?_
      intro T511 h511 X511 e511 W511
      have z511 : n0 ≤ h511.size := Nat.le_trans Z0 (Keep.of_wr W511).1
      have Fw511 := F_rounds.same W511
      have N511 := Fr.snoc X511 N4 g_a1
      have K511 : Keep h0 h511 [a1] := (Keep.refl h0 [a1]).wr W511 (Or.inl (List.mem_of_getElem? (i := 0) rfl))
      refine own_ldc2Long (pc' := 35) X511 hx hZ hown (own_w hw 17 rfl) (hb hby d1_32) rfl ?_
      refine own_bipush (pc' := 37) X511 hx (64 : Int32) (hb hby d1_35) rfl rfl ?_
      refine own_iloadN (pc' := 38) X511 hx (hb hby d1_37) rfl rfl ?_
      refine own_isub (pc' := 39) X511 hx (hb hby d1_38) rfl ?_
      refine own_lushr (pc' := 40) X511 hx (hb hby d1_39) rfl ?_
      obtain ⟨v512, hv512⟩ : ∃ z : Int64, z = (((-1 : Int64).toUInt64 >>> (((64 : Int32) - w) &&& 0x3f).toInt64.toUInt64).toInt64) := ⟨_, rfl⟩
      refine own_lstore (pc' := 42) (l' := #[.val (.ref a1), .val (.int st), .val (.int w), .val (.int p'), .val (.int n'), .val (.int v2), .val (.long v512), .second, .unset, .unset, .unset, .unset, .unset, .unset]) X511 hx (hb hby d1_40) hv512 rfl rfl ?_
      refine own_lconst0 (pc' := 43) X511 hx (hb hby d1_42) rfl ?_
      refine own_lstore (pc' := 45) (l' := #[.val (.ref a1), .val (.int st), .val (.int w), .val (.int p'), .val (.int n'), .val (.int v2), .val (.long v512), .second, .val (.long (0 : Int64)), .second, .unset, .unset, .unset, .unset]) X511 hx (hb hby d1_43) rfl rfl rfl ?_
      refine own_iconst (pc' := 46) X511 hx (0 : Int32) (hb hby d1_45) rfl rfl ?_
      refine own_istore (pc' := 48) (l' := #[.val (.ref a1), .val (.int st), .val (.int w), .val (.int p'), .val (.int n'), .val (.int v2), .val (.long v512), .second, .val (.long (0 : Int64)), .second, .val (.int (0 : Int32)), .unset, .unset, .unset]) X511 hx (hb hby d1_46) rfl rfl rfl ?_
      have hwb : ∀ x, own_bit v512 x = decide (x < wn) := by rw [hv512]; exact own_wbq w wn hW hw1 (by omega)
      refine lpS hw hx hby hml hown hZ X511 a1 st w p' n' v2 v512 wn pn nn hW hP hN hw1 hwp hsp hwb (fun vS runS hUS => ?_) _ 0 0 0 rfl (Nat.zero_le _) (by decide) (own_Up0 _ _ _ _)
      show own_WP _ _ _ _ _ _ _ (T511.setTop (mkF m 73 #[.val (.ref a1), .val (.int st), .val (.int w), .val (.int p'), .val (.int n'), .val (.int v2), .val (.long v512), .second, .val (.long vS), .second, .val (.int runS), .unset, .unset, .unset] []))
      refine own_aloadN (pc' := 74) X511 hx (hb hby d1_73) rfl rfl rfl ?_
      refine own_iloadN (pc' := 75) X511 hx (hb hby d1_74) rfl rfl ?_
      have f513 := (F_start.other W511 (Or.inr (slot_ne (Or.inr (own_w hw 19 rfl)) (Or.inr (own_w hw 16 rfl)) (by decide) (t := .int) (t' := .int) (by decide +kernel) (by decide +kernel))))
      have f514 := (E1.wr W511)
      refine own_putF (pc' := 78) X511 hx hZ hown (host := "") (Or.inl (own_w hw 18 rfl)) Via.refl e511 f513 f514 (Or.inr ⟨(own_w hw 19 rfl), rfl, hnm⟩) (own_w hw 2 rfl) (ty := .int) (by decide) rfl rfl (hb hby d1_75) rfl ?_
      intro T515 h515 X515 e515 W515
      have z515 : n0 ≤ h515.size := Nat.le_trans z511 (Keep.of_wr W515).1
      have Fw515 := f513.same W515
      have N515 := Fr.snoc X515 N511 g_a1
      have K515 : Keep h0 h515 [a1] := K511.wr W515 (Or.inl (List.mem_of_getElem? (i := 0) rfl))
      refine own_aloadN (pc' := 79) X515 hx (hb hby d1_78) rfl rfl rfl ?_
      refine own_lload (pc' := 81) X515 hx (hb hby d1_79) rfl rfl ?_
      have f516 := ((F_runs.other W511 (Or.inr (slot_ne (Or.inr (own_w hw 21 rfl)) (Or.inr (own_w hw 16 rfl)) (by decide) (t := .long) (t' := .int) (by decide +kernel) (by decide +kernel)))).other W515 (Or.inr (slot_ne (Or.inr (own_w hw 21 rfl)) (Or.inr (own_w hw 19 rfl)) (by decide) (t := .long) (t' := .int) (by decide +kernel) (by decide +kernel))))
      have f517 := (f514.wr W515)
      refine own_putF (pc' := 84) X515 hx hZ hown (host := "") (Or.inl (own_w hw 20 rfl)) Via.refl e515 f516 f517 (Or.inr ⟨(own_w hw 21 rfl), rfl, hnm⟩) (own_w hw 2 rfl) (ty := .long) (by decide) rfl rfl (hb hby d1_81) rfl ?_
      intro T518 h518 X518 e518 W518
      have z518 : n0 ≤ h518.size := Nat.le_trans z515 (Keep.of_wr W518).1
      have Fw518 := f516.same W518
      have N518 := Fr.snoc X518 N515 g_a1
      have K518 : Keep h0 h518 [a1] := K515.wr W518 (Or.inl (List.mem_of_getElem? (i := 0) rfl))
      refine own_aloadN (pc' := 85) X518 hx (hb hby d1_84) rfl rfl rfl ?_
      refine own_lload (pc' := 87) X518 hx (hb hby d1_85) rfl rfl ?_
      refine own_iloadN (pc' := 88) X518 hx (hb hby d1_87) rfl rfl ?_
      refine own_lshl (pc' := 89) X518 hx (hb hby d1_88) rfl ?_
      have f519 := (((F_mask.other W511 (Or.inr (slot_ne (Or.inr (own_w hw 23 rfl)) (Or.inr (own_w hw 16 rfl)) (by decide) (t := .long) (t' := .int) (by decide +kernel) (by decide +kernel)))).other W515 (Or.inr (slot_ne (Or.inr (own_w hw 23 rfl)) (Or.inr (own_w hw 19 rfl)) (by decide) (t := .long) (t' := .int) (by decide +kernel) (by decide +kernel)))).other W518 (Or.inr (slot_ne (Or.inr (own_w hw 23 rfl)) (Or.inr (own_w hw 21 rfl)) (by decide) (t := .long) (t' := .long) (by decide +kernel) (by decide +kernel))))
      have f520 := (f517.wr W518)
      obtain ⟨v522, hv522⟩ : ∃ z : Int64, z = (vS <<< (st &&& 0x3f).toInt64) := ⟨_, rfl⟩
      rw [← hv522]
      refine own_putF (pc' := 92) X518 hx hZ hown (host := "") (Or.inl (own_w hw 22 rfl)) Via.refl e518 f519 f520 (Or.inr ⟨(own_w hw 23 rfl), rfl, hnm⟩) (own_w hw 2 rfl) (ty := .long) (by decide) rfl rfl (hb hby d1_89) rfl ?_
      intro T521 h521 X521 e521 W521
      have z521 : n0 ≤ h521.size := Nat.le_trans z518 (Keep.of_wr W521).1
      have Fw521 := f519.same W521
      have N521 := Fr.snoc X521 N518 g_a1
      have K521 : Keep h0 h521 [a1] := K518.wr W521 (Or.inl (List.mem_of_getElem? (i := 0) rfl))
      refine own_aloadN (pc' := 93) X521 hx (hb hby d1_92) rfl rfl rfl ?_
      refine own_iload (pc' := 95) X521 hx (hb hby d1_93) rfl rfl ?_
      refine own_iloadN (pc' := 96) X521 hx (hb hby d1_95) rfl rfl ?_
      refine own_imul (pc' := 97) X521 hx (hb hby d1_96) rfl ?_
      have f523 := ((((F_count.other W511 (Or.inr (slot_ne (Or.inr (own_w hw 25 rfl)) (Or.inr (own_w hw 16 rfl)) (by decide) (t := .int) (t' := .int) (by decide +kernel) (by decide +kernel)))).other W515 (Or.inr (slot_ne (Or.inr (own_w hw 25 rfl)) (Or.inr (own_w hw 19 rfl)) (by decide) (t := .int) (t' := .int) (by decide +kernel) (by decide +kernel)))).other W518 (Or.inr (slot_ne (Or.inr (own_w hw 25 rfl)) (Or.inr (own_w hw 21 rfl)) (by decide) (t := .int) (t' := .long) (by decide +kernel) (by decide +kernel)))).other W521 (Or.inr (slot_ne (Or.inr (own_w hw 25 rfl)) (Or.inr (own_w hw 23 rfl)) (by decide) (t := .int) (t' := .long) (by decide +kernel) (by decide +kernel))))
      have f524 := (f520.wr W521)
      obtain ⟨v526, hv526⟩ : ∃ z : Int32, z = (n' * w) := ⟨_, rfl⟩
      rw [← hv526]
      refine own_putF (pc' := 100) X521 hx hZ hown (host := "") (Or.inl (own_w hw 24 rfl)) Via.refl e521 f523 f524 (Or.inr ⟨(own_w hw 25 rfl), rfl, hnm⟩) (own_w hw 2 rfl) (ty := .int) (by decide) rfl rfl (hb hby d1_97) rfl ?_
      intro T525 h525 X525 e525 W525
      have z525 : n0 ≤ h525.size := Nat.le_trans z521 (Keep.of_wr W525).1
      have Fw525 := f523.same W525
      have N525 := Fr.snoc X525 N521 g_a1
      have K525 : Keep h0 h525 [a1] := K521.wr W525 (Or.inl (List.mem_of_getElem? (i := 0) rfl))
      refine own_aloadN (pc' := 101) X525 hx (hb hby d1_100) rfl rfl rfl ?_
      refine own_ldc2Long (pc' := 104) X525 hx hZ hown (own_w hw 17 rfl) (hb hby d1_101) rfl ?_
      refine own_bipush (pc' := 106) X525 hx (64 : Int32) (hb hby d1_104) rfl rfl ?_
      refine own_aloadN (pc' := 107) X525 hx (hb hby d1_106) rfl rfl rfl ?_
      refine own_getF (pc' := 110) X525 hx hZ hown (host := "") (Or.inl (own_w hw 24 rfl)) Via.refl e525 Fw525 (hb hby d1_107) rfl ?_
      intro T527 X527 e527
      refine own_isub (pc' := 111) X527 hx (hb hby d1_110) rfl ?_
      refine own_lushr (pc' := 112) X527 hx (hb hby d1_111) rfl ?_
      have f528 := (((((F_low.other W511 (Or.inr (slot_ne (Or.inr (own_w hw 27 rfl)) (Or.inr (own_w hw 16 rfl)) (by decide) (t := .long) (t' := .int) (by decide +kernel) (by decide +kernel)))).other W515 (Or.inr (slot_ne (Or.inr (own_w hw 27 rfl)) (Or.inr (own_w hw 19 rfl)) (by decide) (t := .long) (t' := .int) (by decide +kernel) (by decide +kernel)))).other W518 (Or.inr (slot_ne (Or.inr (own_w hw 27 rfl)) (Or.inr (own_w hw 21 rfl)) (by decide) (t := .long) (t' := .long) (by decide +kernel) (by decide +kernel)))).other W521 (Or.inr (slot_ne (Or.inr (own_w hw 27 rfl)) (Or.inr (own_w hw 23 rfl)) (by decide) (t := .long) (t' := .long) (by decide +kernel) (by decide +kernel)))).other W525 (Or.inr (slot_ne (Or.inr (own_w hw 27 rfl)) (Or.inr (own_w hw 25 rfl)) (by decide) (t := .long) (t' := .int) (by decide +kernel) (by decide +kernel))))
      have f529 := (f524.wr W525)
      obtain ⟨v531, hv531⟩ : ∃ z : Int64, z = (((-1 : Int64).toUInt64 >>> (((64 : Int32) - v526) &&& 0x3f).toInt64.toUInt64).toInt64) := ⟨_, rfl⟩
      rw [← hv531]
      refine own_putF (pc' := 115) X527 hx hZ hown (host := "") (Or.inl (own_w hw 26 rfl)) Via.refl e527 f528 f529 (Or.inr ⟨(own_w hw 27 rfl), rfl, hnm⟩) (own_w hw 2 rfl) (ty := .long) (by decide) rfl rfl (hb hby d1_112) rfl ?_
      intro T530 h530 X530 e530 W530
      have z530 : n0 ≤ h530.size := Nat.le_trans z525 (Keep.of_wr W530).1
      have Fw530 := f528.same W530
      have N530 := Fr.snoc X530 N525 g_a1
      have K530 : Keep h0 h530 [a1] := K525.wr W530 (Or.inl (List.mem_of_getElem? (i := 0) rfl))
      refine own_iconst (pc' := 116) X530 hx (5 : Int32) (hb hby d1_115) rfl rfl ?_
      refine own_newP (pc' := 118) (cap := 5) X530 hx hZ (own_w hw 28 rfl) e530 (hb hby d1_116) (by decide) (by decide) (by decide) (by decide) (by decide) rfl ?_
      intro T532 h532 k532 b532 g532 X532 e532 E532 A532
      have f533 := (f529.wr W530)
      have ne_a1_b532 : a1 ≠ b532 := Nat.ne_of_lt (Nat.lt_of_lt_of_le f533.lt (Nat.le_of_eq g532.symm))
      have ne_b532_a1 := ne_a1_b532.symm
      have g_b532 : n0 ≤ b532 := Nat.le_trans z530 (Nat.le_of_eq g532.symm)
      have sz_b532 : h0.size ≤ b532 := Nat.le_trans K530.1 (Nat.le_of_eq g532.symm)
      have z532 : n0 ≤ h532.size := Nat.le_trans z530 E532.1
      have K532 : Keep h0 h532 [a1] := K530.ext E532
      have V532 : Arv Z h532 b532 k532 .long (5 : Int32) [(.long (0 : Int64)), (.long (0 : Int64)), (.long (0 : Int64)), (.long (0 : Int64)), (.long (0 : Int64))] (.long (0 : Int64)) := (Arv.new A532 (by decide)).pad (pad_rep [] (.long (0 : Int64)) 5)
      refine own_astore (pc' := 120) (l' := #[.val (.ref a1), .val (.int st), .val (.int w), .val (.int p'), .val (.int n'), .val (.int v2), .val (.long v512), .second, .val (.long vS), .second, .val (.ref b532), .unset, .unset, .unset]) X532 hx (hb hby d1_118) rfl rfl rfl ?_
      refine own_iconst (pc' := 121) X532 hx (0 : Int32) (hb hby d1_120) rfl rfl ?_
      refine own_istore (pc' := 123) (l' := #[.val (.ref a1), .val (.int st), .val (.int w), .val (.int p'), .val (.int n'), .val (.int v2), .val (.long v512), .second, .val (.long vS), .second, .val (.ref b532), .val (.int (0 : Int32)), .unset, .unset]) X532 hx (hb hby d1_121) rfl rfl rfl ?_
      refine own_iload (pc' := 125) X532 hx (hb hby d1_123) rfl rfl ?_
      refine own_aloadN (pc' := 126) X532 hx (hb hby d1_125) rfl rfl rfl ?_
      have f534 := ((((((Fw511.other W515 (Or.inr (slot_ne (Or.inr (own_w hw 16 rfl)) (Or.inr (own_w hw 19 rfl)) (by decide) (t := .int) (t' := .int) (by decide +kernel) (by decide +kernel)))).other W518 (Or.inr (slot_ne (Or.inr (own_w hw 16 rfl)) (Or.inr (own_w hw 21 rfl)) (by decide) (t := .int) (t' := .long) (by decide +kernel) (by decide +kernel)))).other W521 (Or.inr (slot_ne (Or.inr (own_w hw 16 rfl)) (Or.inr (own_w hw 23 rfl)) (by decide) (t := .int) (t' := .long) (by decide +kernel) (by decide +kernel)))).other W525 (Or.inr (slot_ne (Or.inr (own_w hw 16 rfl)) (Or.inr (own_w hw 25 rfl)) (by decide) (t := .int) (t' := .int) (by decide +kernel) (by decide +kernel)))).other W530 (Or.inr (slot_ne (Or.inr (own_w hw 16 rfl)) (Or.inr (own_w hw 27 rfl)) (by decide) (t := .int) (t' := .long) (by decide +kernel) (by decide +kernel)))).ext E532)
      refine own_getF (pc' := 129) X532 hx hZ hown (host := "") (Or.inl (own_w hw 15 rfl)) Via.refl e532 f534 (hb hby d1_126) rfl ?_
      intro T535 X535 e535
      refine own_icmp_ge (pt := 196) (pf := 132) X535 hx (hb hby d1_129) rfl (by decide) rfl (fun hc129 => absurd (by decide) hc129) (fun hc129 => ?_)
      refine own_iconst (pc' := 133) X535 hx (0 : Int32) (hb hby d1_132) rfl rfl ?_
      refine own_istore (pc' := 135) (l' := #[.val (.ref a1), .val (.int st), .val (.int w), .val (.int p'), .val (.int n'), .val (.int v2), .val (.long v512), .second, .val (.long vS), .second, .val (.ref b532), .val (.int (0 : Int32)), .val (.int (0 : Int32)), .unset]) X535 hx (hb hby d1_133) rfl rfl rfl ?_
      refine lpI hw hx hby hml hown hZ a1 st w p' n' v2 v512 wn pn nn hW hP hN hw1 hwp hsp hwb (pn - wn) hG hg vS b532 (0 : Int32) 0 (by decide) (by decide) k532 [(.long (0 : Int64)), (.long (0 : Int64)), (.long (0 : Int64)), (.long (0 : Int64)), (.long (0 : Int64))] rfl h532 g_b532 (fun T536 h536 L536 run536 mv536 sl536 X536 e536 N536 K536 V536 hU536 hsl536 => ?_) _ T535 h532 _ 0 0 .unset 0 rfl (Nat.zero_le _) (by decide) X535 e535 N530 (Keep.refl _ _) V532 (own_Up0 _ _ _ _) (Or.inl rfl)
      have z536 : n0 ≤ h536.size := Nat.le_trans z532 K536.1
      have KK536 : Keep h0 h536 [a1] := K532.trans K536 (allS (Or.inr sz_b532) all0)
      have V536 : Arv Z h536 b532 k532 .long 5 [(.long mv536), (.long (0 : Int64)), (.long (0 : Int64)), (.long (0 : Int64)), (.long (0 : Int64))] (.long 0) := V536
      show own_WP _ _ _ _ _ _ _ (T536.setTop (mkF m 190 #[.val (.ref a1), .val (.int st), .val (.int w), .val (.int p'), .val (.int n'), .val (.int v2), .val (.long v512), .second, .val (.long vS), .second, .val (.ref b532), .val (.int (0 : Int32)), .val (.int run536), sl536] []))
      refine own_iinc (pc' := 193) (l' := #[.val (.ref a1), .val (.int st), .val (.int w), .val (.int p'), .val (.int n'), .val (.int v2), .val (.long v512), .second, .val (.long vS), .second, .val (.ref b532), .val (.int (1 : Int32)), .val (.int run536), sl536]) X536 hx (hb hby d1_190) rfl (by decide) rfl rfl ?_
      refine own_goto (pc' := 123) X536 hx (hb hby d1_193) (by decide) rfl ?_
      refine own_iload (pc' := 125) X536 hx (hb hby d1_123) rfl rfl ?_
      refine own_aloadN (pc' := 126) X536 hx (hb hby d1_125) rfl rfl rfl ?_
      have f537 := (f534.keep K536 (ninS ne_a1_b532 nin0))
      refine own_getF (pc' := 129) X536 hx hZ hown (host := "") (Or.inl (own_w hw 15 rfl)) Via.refl e536 f537 (hb hby d1_126) rfl ?_
      intro T538 X538 e538
      refine own_icmp_ge (pt := 196) (pf := 132) X538 hx (hb hby d1_129) rfl (by decide) rfl (fun hc129_1 => absurd (by decide) hc129_1) (fun hc129_1 => ?_)
      refine own_iconst (pc' := 133) X538 hx (0 : Int32) (hb hby d1_132) rfl rfl ?_
      refine own_istore (pc' := 135) (l' := #[.val (.ref a1), .val (.int st), .val (.int w), .val (.int p'), .val (.int n'), .val (.int v2), .val (.long v512), .second, .val (.long vS), .second, .val (.ref b532), .val (.int (1 : Int32)), .val (.int (0 : Int32)), sl536]) X538 hx (hb hby d1_133) rfl rfl rfl ?_
      refine lpI hw hx hby hml hown hZ a1 st w p' n' v2 v512 wn pn nn hW hP hN hw1 hwp hsp hwb (pn - wn) hG hg vS b532 (1 : Int32) 1 (by decide) (by decide) k532 [(.long mv536), (.long (0 : Int64)), (.long (0 : Int64)), (.long (0 : Int64)), (.long (0 : Int64))] rfl h536 g_b532 (fun T539 h539 L539 run539 mv539 sl539 X539 e539 N539 K539 V539 hU539 hsl539 => ?_) _ T538 h536 _ 0 0 sl536 0 rfl (Nat.zero_le _) (by decide) X538 e538 N536 (Keep.refl _ _) V536 (own_Up0 _ _ _ _) hsl536
      have z539 : n0 ≤ h539.size := Nat.le_trans z536 K539.1
      have KK539 : Keep h0 h539 [a1] := KK536.trans K539 (allS (Or.inr sz_b532) all0)
      have V539 : Arv Z h539 b532 k532 .long 5 [(.long mv536), (.long mv539), (.long (0 : Int64)), (.long (0 : Int64)), (.long (0 : Int64))] (.long 0) := V539
      show own_WP _ _ _ _ _ _ _ (T539.setTop (mkF m 190 #[.val (.ref a1), .val (.int st), .val (.int w), .val (.int p'), .val (.int n'), .val (.int v2), .val (.long v512), .second, .val (.long vS), .second, .val (.ref b532), .val (.int (1 : Int32)), .val (.int run539), sl539] []))
      refine own_iinc (pc' := 193) (l' := #[.val (.ref a1), .val (.int st), .val (.int w), .val (.int p'), .val (.int n'), .val (.int v2), .val (.long v512), .second, .val (.long vS), .second, .val (.ref b532), .val (.int (2 : Int32)), .val (.int run539), sl539]) X539 hx (hb hby d1_190) rfl (by decide) rfl rfl ?_
      refine own_goto (pc' := 123) X539 hx (hb hby d1_193) (by decide) rfl ?_
      refine own_iload (pc' := 125) X539 hx (hb hby d1_123) rfl rfl ?_
      refine own_aloadN (pc' := 126) X539 hx (hb hby d1_125) rfl rfl rfl ?_
      have f540 := (f537.keep K539 (ninS ne_a1_b532 nin0))
      refine own_getF (pc' := 129) X539 hx hZ hown (host := "") (Or.inl (own_w hw 15 rfl)) Via.refl e539 f540 (hb hby d1_126) rfl ?_
      intro T541 X541 e541
      refine own_icmp_ge (pt := 196) (pf := 132) X541 hx (hb hby d1_129) rfl (by decide) rfl (fun hc129_2 => absurd (by decide) hc129_2) (fun hc129_2 => ?_)
      refine own_iconst (pc' := 133) X541 hx (0 : Int32) (hb hby d1_132) rfl rfl ?_
      refine own_istore (pc' := 135) (l' := #[.val (.ref a1), .val (.int st), .val (.int w), .val (.int p'), .val (.int n'), .val (.int v2), .val (.long v512), .second, .val (.long vS), .second, .val (.ref b532), .val (.int (2 : Int32)), .val (.int (0 : Int32)), sl539]) X541 hx (hb hby d1_133) rfl rfl rfl ?_
      refine lpI hw hx hby hml hown hZ a1 st w p' n' v2 v512 wn pn nn hW hP hN hw1 hwp hsp hwb (pn - wn) hG hg vS b532 (2 : Int32) 2 (by decide) (by decide) k532 [(.long mv536), (.long mv539), (.long (0 : Int64)), (.long (0 : Int64)), (.long (0 : Int64))] rfl h539 g_b532 (fun T542 h542 L542 run542 mv542 sl542 X542 e542 N542 K542 V542 hU542 hsl542 => ?_) _ T541 h539 _ 0 0 sl539 0 rfl (Nat.zero_le _) (by decide) X541 e541 N539 (Keep.refl _ _) V539 (own_Up0 _ _ _ _) hsl539
      have z542 : n0 ≤ h542.size := Nat.le_trans z539 K542.1
      have KK542 : Keep h0 h542 [a1] := KK539.trans K542 (allS (Or.inr sz_b532) all0)
      have V542 : Arv Z h542 b532 k532 .long 5 [(.long mv536), (.long mv539), (.long mv542), (.long (0 : Int64)), (.long (0 : Int64))] (.long 0) := V542
      show own_WP _ _ _ _ _ _ _ (T542.setTop (mkF m 190 #[.val (.ref a1), .val (.int st), .val (.int w), .val (.int p'), .val (.int n'), .val (.int v2), .val (.long v512), .second, .val (.long vS), .second, .val (.ref b532), .val (.int (2 : Int32)), .val (.int run542), sl542] []))
      refine own_iinc (pc' := 193) (l' := #[.val (.ref a1), .val (.int st), .val (.int w), .val (.int p'), .val (.int n'), .val (.int v2), .val (.long v512), .second, .val (.long vS), .second, .val (.ref b532), .val (.int (3 : Int32)), .val (.int run542), sl542]) X542 hx (hb hby d1_190) rfl (by decide) rfl rfl ?_
      refine own_goto (pc' := 123) X542 hx (hb hby d1_193) (by decide) rfl ?_
      refine own_iload (pc' := 125) X542 hx (hb hby d1_123) rfl rfl ?_
      refine own_aloadN (pc' := 126) X542 hx (hb hby d1_125) rfl rfl rfl ?_
      have f543 := (f540.keep K542 (ninS ne_a1_b532 nin0))
      refine own_getF (pc' := 129) X542 hx hZ hown (host := "") (Or.inl (own_w hw 15 rfl)) Via.refl e542 f543 (hb hby d1_126) rfl ?_
      intro T544 X544 e544
      refine own_icmp_ge (pt := 196) (pf := 132) X544 hx (hb hby d1_129) rfl (by decide) rfl (fun hc129_3 => absurd (by decide) hc129_3) (fun hc129_3 => ?_)
      refine own_iconst (pc' := 133) X544 hx (0 : Int32) (hb hby d1_132) rfl rfl ?_
      refine own_istore (pc' := 135) (l' := #[.val (.ref a1), .val (.int st), .val (.int w), .val (.int p'), .val (.int n'), .val (.int v2), .val (.long v512), .second, .val (.long vS), .second, .val (.ref b532), .val (.int (3 : Int32)), .val (.int (0 : Int32)), sl542]) X544 hx (hb hby d1_133) rfl rfl rfl ?_
      refine lpI hw hx hby hml hown hZ a1 st w p' n' v2 v512 wn pn nn hW hP hN hw1 hwp hsp hwb (pn - wn) hG hg vS b532 (3 : Int32) 3 (by decide) (by decide) k532 [(.long mv536), (.long mv539), (.long mv542), (.long (0 : Int64)), (.long (0 : Int64))] rfl h542 g_b532 (fun T545 h545 L545 run545 mv545 sl545 X545 e545 N545 K545 V545 hU545 hsl545 => ?_) _ T544 h542 _ 0 0 sl542 0 rfl (Nat.zero_le _) (by decide) X544 e544 N542 (Keep.refl _ _) V542 (own_Up0 _ _ _ _) hsl542
      have z545 : n0 ≤ h545.size := Nat.le_trans z542 K545.1
      have KK545 : Keep h0 h545 [a1] := KK542.trans K545 (allS (Or.inr sz_b532) all0)
      have V545 : Arv Z h545 b532 k532 .long 5 [(.long mv536), (.long mv539), (.long mv542), (.long mv545), (.long (0 : Int64))] (.long 0) := V545
      show own_WP _ _ _ _ _ _ _ (T545.setTop (mkF m 190 #[.val (.ref a1), .val (.int st), .val (.int w), .val (.int p'), .val (.int n'), .val (.int v2), .val (.long v512), .second, .val (.long vS), .second, .val (.ref b532), .val (.int (3 : Int32)), .val (.int run545), sl545] []))
      refine own_iinc (pc' := 193) (l' := #[.val (.ref a1), .val (.int st), .val (.int w), .val (.int p'), .val (.int n'), .val (.int v2), .val (.long v512), .second, .val (.long vS), .second, .val (.ref b532), .val (.int (4 : Int32)), .val (.int run545), sl545]) X545 hx (hb hby d1_190) rfl (by decide) rfl rfl ?_
      refine own_goto (pc' := 123) X545 hx (hb hby d1_193) (by decide) rfl ?_
      refine own_iload (pc' := 125) X545 hx (hb hby d1_123) rfl rfl ?_
      refine own_aloadN (pc' := 126) X545 hx (hb hby d1_125) rfl rfl rfl ?_
      have f546 := (f543.keep K545 (ninS ne_a1_b532 nin0))
      refine own_getF (pc' := 129) X545 hx hZ hown (host := "") (Or.inl (own_w hw 15 rfl)) Via.refl e545 f546 (hb hby d1_126) rfl ?_
      intro T547 X547 e547
      refine own_icmp_ge (pt := 196) (pf := 132) X547 hx (hb hby d1_129) rfl (by decide) rfl (fun hc129_4 => ?_) (fun hc129_4 => absurd hc129_4 (by decide))
      refine own_aloadN (pc' := 197) X547 hx (hb hby d1_196) rfl rfl rfl ?_
      refine own_aload (pc' := 199) X547 hx (hb hby d1_197) rfl rfl rfl ?_
      refine own_iconst (pc' := 200) X547 hx (0 : Int32) (hb hby d1_199) rfl rfl ?_
      refine own_laload (pc' := 201) (v := (.long mv536)) X547 hx hZ e547 V545 ⟨by decide, by decide⟩ rfl (hb hby d1_200) rfl ?_
      have f548 := (((((((((((F_moving0.other W511 (Or.inr (slot_ne (Or.inr (own_w hw 30 rfl)) (Or.inr (own_w hw 16 rfl)) (by decide) (t := .long) (t' := .int) (by decide +kernel) (by decide +kernel)))).other W515 (Or.inr (slot_ne (Or.inr (own_w hw 30 rfl)) (Or.inr (own_w hw 19 rfl)) (by decide) (t := .long) (t' := .int) (by decide +kernel) (by decide +kernel)))).other W518 (Or.inr (slot_ne (Or.inr (own_w hw 30 rfl)) (Or.inr (own_w hw 21 rfl)) (by decide) (t := .long) (t' := .long) (by decide +kernel) (by decide +kernel)))).other W521 (Or.inr (slot_ne (Or.inr (own_w hw 30 rfl)) (Or.inr (own_w hw 23 rfl)) (by decide) (t := .long) (t' := .long) (by decide +kernel) (by decide +kernel)))).other W525 (Or.inr (slot_ne (Or.inr (own_w hw 30 rfl)) (Or.inr (own_w hw 25 rfl)) (by decide) (t := .long) (t' := .int) (by decide +kernel) (by decide +kernel)))).other W530 (Or.inr (slot_ne (Or.inr (own_w hw 30 rfl)) (Or.inr (own_w hw 27 rfl)) (by decide) (t := .long) (t' := .long) (by decide +kernel) (by decide +kernel)))).ext E532).keep K536 (ninS ne_a1_b532 nin0)).keep K539 (ninS ne_a1_b532 nin0)).keep K542 (ninS ne_a1_b532 nin0)).keep K545 (ninS ne_a1_b532 nin0))
      have f549 := (((((f533.ext E532).keep K536).keep K539).keep K542).keep K545)
      refine own_putF (pc' := 204) X547 hx hZ hown (host := "") (Or.inl (own_w hw 29 rfl)) Via.refl e547 f548 f549 (Or.inr ⟨(own_w hw 30 rfl), rfl, hnm⟩) (own_w hw 2 rfl) (ty := .long) (by decide) rfl rfl (hb hby d1_201) rfl ?_
      intro T550 h550 X550 e550 W550
      have z550 : n0 ≤ h550.size := Nat.le_trans z545 (Keep.of_wr W550).1
      have Fw550 := f548.same W550
      have N550 := Fr.snoc X550 N545 g_a1
      have K550 : Keep h0 h550 [a1] := KK545.wr W550 (Or.inl (List.mem_of_getElem? (i := 0) rfl))
      refine own_aloadN (pc' := 205) X550 hx (hb hby d1_204) rfl rfl rfl ?_
      refine own_aload (pc' := 207) X550 hx (hb hby d1_205) rfl rfl rfl ?_
      refine own_iconst (pc' := 208) X550 hx (1 : Int32) (hb hby d1_207) rfl rfl ?_
      have f551 := (V545.other W550 ne_b532_a1)
      refine own_laload (pc' := 209) (v := (.long mv539)) X550 hx hZ e550 f551 ⟨by decide, by decide⟩ rfl (hb hby d1_208) rfl ?_
      have f552 := ((((((((((((F_moving1.other W511 (Or.inr (slot_ne (Or.inr (own_w hw 32 rfl)) (Or.inr (own_w hw 16 rfl)) (by decide) (t := .long) (t' := .int) (by decide +kernel) (by decide +kernel)))).other W515 (Or.inr (slot_ne (Or.inr (own_w hw 32 rfl)) (Or.inr (own_w hw 19 rfl)) (by decide) (t := .long) (t' := .int) (by decide +kernel) (by decide +kernel)))).other W518 (Or.inr (slot_ne (Or.inr (own_w hw 32 rfl)) (Or.inr (own_w hw 21 rfl)) (by decide) (t := .long) (t' := .long) (by decide +kernel) (by decide +kernel)))).other W521 (Or.inr (slot_ne (Or.inr (own_w hw 32 rfl)) (Or.inr (own_w hw 23 rfl)) (by decide) (t := .long) (t' := .long) (by decide +kernel) (by decide +kernel)))).other W525 (Or.inr (slot_ne (Or.inr (own_w hw 32 rfl)) (Or.inr (own_w hw 25 rfl)) (by decide) (t := .long) (t' := .int) (by decide +kernel) (by decide +kernel)))).other W530 (Or.inr (slot_ne (Or.inr (own_w hw 32 rfl)) (Or.inr (own_w hw 27 rfl)) (by decide) (t := .long) (t' := .long) (by decide +kernel) (by decide +kernel)))).ext E532).keep K536 (ninS ne_a1_b532 nin0)).keep K539 (ninS ne_a1_b532 nin0)).keep K542 (ninS ne_a1_b532 nin0)).keep K545 (ninS ne_a1_b532 nin0)).other W550 (Or.inr (slot_ne (Or.inr (own_w hw 32 rfl)) (Or.inr (own_w hw 30 rfl)) (by decide) (t := .long) (t' := .long) (by decide +kernel) (by decide +kernel))))
      have f553 := (f549.wr W550)
      refine own_putF (pc' := 212) X550 hx hZ hown (host := "") (Or.inl (own_w hw 31 rfl)) Via.refl e550 f552 f553 (Or.inr ⟨(own_w hw 32 rfl), rfl, hnm⟩) (own_w hw 2 rfl) (ty := .long) (by decide) rfl rfl (hb hby d1_209) rfl ?_
      intro T554 h554 X554 e554 W554
      have z554 : n0 ≤ h554.size := Nat.le_trans z550 (Keep.of_wr W554).1
      have Fw554 := f552.same W554
      have N554 := Fr.snoc X554 N550 g_a1
      have K554 : Keep h0 h554 [a1] := K550.wr W554 (Or.inl (List.mem_of_getElem? (i := 0) rfl))
      refine own_aloadN (pc' := 213) X554 hx (hb hby d1_212) rfl rfl rfl ?_
      refine own_aload (pc' := 215) X554 hx (hb hby d1_213) rfl rfl rfl ?_
      refine own_iconst (pc' := 216) X554 hx (2 : Int32) (hb hby d1_215) rfl rfl ?_
      have f555 := (f551.other W554 ne_b532_a1)
      refine own_laload (pc' := 217) (v := (.long mv542)) X554 hx hZ e554 f555 ⟨by decide, by decide⟩ rfl (hb hby d1_216) rfl ?_
      have f556 := (((((((((((((F_moving2.other W511 (Or.inr (slot_ne (Or.inr (own_w hw 34 rfl)) (Or.inr (own_w hw 16 rfl)) (by decide) (t := .long) (t' := .int) (by decide +kernel) (by decide +kernel)))).other W515 (Or.inr (slot_ne (Or.inr (own_w hw 34 rfl)) (Or.inr (own_w hw 19 rfl)) (by decide) (t := .long) (t' := .int) (by decide +kernel) (by decide +kernel)))).other W518 (Or.inr (slot_ne (Or.inr (own_w hw 34 rfl)) (Or.inr (own_w hw 21 rfl)) (by decide) (t := .long) (t' := .long) (by decide +kernel) (by decide +kernel)))).other W521 (Or.inr (slot_ne (Or.inr (own_w hw 34 rfl)) (Or.inr (own_w hw 23 rfl)) (by decide) (t := .long) (t' := .long) (by decide +kernel) (by decide +kernel)))).other W525 (Or.inr (slot_ne (Or.inr (own_w hw 34 rfl)) (Or.inr (own_w hw 25 rfl)) (by decide) (t := .long) (t' := .int) (by decide +kernel) (by decide +kernel)))).other W530 (Or.inr (slot_ne (Or.inr (own_w hw 34 rfl)) (Or.inr (own_w hw 27 rfl)) (by decide) (t := .long) (t' := .long) (by decide +kernel) (by decide +kernel)))).ext E532).keep K536 (ninS ne_a1_b532 nin0)).keep K539 (ninS ne_a1_b532 nin0)).keep K542 (ninS ne_a1_b532 nin0)).keep K545 (ninS ne_a1_b532 nin0)).other W550 (Or.inr (slot_ne (Or.inr (own_w hw 34 rfl)) (Or.inr (own_w hw 30 rfl)) (by decide) (t := .long) (t' := .long) (by decide +kernel) (by decide +kernel)))).other W554 (Or.inr (slot_ne (Or.inr (own_w hw 34 rfl)) (Or.inr (own_w hw 32 rfl)) (by decide) (t := .long) (t' := .long) (by decide +kernel) (by decide +kernel))))
      have f557 := (f553.wr W554)
      refine own_putF (pc' := 220) X554 hx hZ hown (host := "") (Or.inl (own_w hw 33 rfl)) Via.refl e554 f556 f557 (Or.inr ⟨(own_w hw 34 rfl), rfl, hnm⟩) (own_w hw 2 rfl) (ty := .long) (by decide) rfl rfl (hb hby d1_217) rfl ?_
      intro T558 h558 X558 e558 W558
      have z558 : n0 ≤ h558.size := Nat.le_trans z554 (Keep.of_wr W558).1
      have Fw558 := f556.same W558
      have N558 := Fr.snoc X558 N554 g_a1
      have K558 : Keep h0 h558 [a1] := K554.wr W558 (Or.inl (List.mem_of_getElem? (i := 0) rfl))
      refine own_aloadN (pc' := 221) X558 hx (hb hby d1_220) rfl rfl rfl ?_
      refine own_aload (pc' := 223) X558 hx (hb hby d1_221) rfl rfl rfl ?_
      refine own_iconst (pc' := 224) X558 hx (3 : Int32) (hb hby d1_223) rfl rfl ?_
      have f559 := (f555.other W558 ne_b532_a1)
      refine own_laload (pc' := 225) (v := (.long mv545)) X558 hx hZ e558 f559 ⟨by decide, by decide⟩ rfl (hb hby d1_224) rfl ?_
      have f560 := ((((((((((((((F_moving3.other W511 (Or.inr (slot_ne (Or.inr (own_w hw 36 rfl)) (Or.inr (own_w hw 16 rfl)) (by decide) (t := .long) (t' := .int) (by decide +kernel) (by decide +kernel)))).other W515 (Or.inr (slot_ne (Or.inr (own_w hw 36 rfl)) (Or.inr (own_w hw 19 rfl)) (by decide) (t := .long) (t' := .int) (by decide +kernel) (by decide +kernel)))).other W518 (Or.inr (slot_ne (Or.inr (own_w hw 36 rfl)) (Or.inr (own_w hw 21 rfl)) (by decide) (t := .long) (t' := .long) (by decide +kernel) (by decide +kernel)))).other W521 (Or.inr (slot_ne (Or.inr (own_w hw 36 rfl)) (Or.inr (own_w hw 23 rfl)) (by decide) (t := .long) (t' := .long) (by decide +kernel) (by decide +kernel)))).other W525 (Or.inr (slot_ne (Or.inr (own_w hw 36 rfl)) (Or.inr (own_w hw 25 rfl)) (by decide) (t := .long) (t' := .int) (by decide +kernel) (by decide +kernel)))).other W530 (Or.inr (slot_ne (Or.inr (own_w hw 36 rfl)) (Or.inr (own_w hw 27 rfl)) (by decide) (t := .long) (t' := .long) (by decide +kernel) (by decide +kernel)))).ext E532).keep K536 (ninS ne_a1_b532 nin0)).keep K539 (ninS ne_a1_b532 nin0)).keep K542 (ninS ne_a1_b532 nin0)).keep K545 (ninS ne_a1_b532 nin0)).other W550 (Or.inr (slot_ne (Or.inr (own_w hw 36 rfl)) (Or.inr (own_w hw 30 rfl)) (by decide) (t := .long) (t' := .long) (by decide +kernel) (by decide +kernel)))).other W554 (Or.inr (slot_ne (Or.inr (own_w hw 36 rfl)) (Or.inr (own_w hw 32 rfl)) (by decide) (t := .long) (t' := .long) (by decide +kernel) (by decide +kernel)))).other W558 (Or.inr (slot_ne (Or.inr (own_w hw 36 rfl)) (Or.inr (own_w hw 34 rfl)) (by decide) (t := .long) (t' := .long) (by decide +kernel) (by decide +kernel))))
      have f561 := (f557.wr W558)
      refine own_putF (pc' := 228) X558 hx hZ hown (host := "") (Or.inl (own_w hw 35 rfl)) Via.refl e558 f560 f561 (Or.inr ⟨(own_w hw 36 rfl), rfl, hnm⟩) (own_w hw 2 rfl) (ty := .long) (by decide) rfl rfl (hb hby d1_225) rfl ?_
      intro T562 h562 X562 e562 W562
      have z562 : n0 ≤ h562.size := Nat.le_trans z558 (Keep.of_wr W562).1
      have Fw562 := f560.same W562
      have N562 := Fr.snoc X562 N558 g_a1
      have K562 : Keep h0 h562 [a1] := K558.wr W562 (Or.inl (List.mem_of_getElem? (i := 0) rfl))
      refine own_aloadN (pc' := 229) X562 hx (hb hby d1_228) rfl rfl rfl ?_
      refine own_aload (pc' := 231) X562 hx (hb hby d1_229) rfl rfl rfl ?_
      refine own_iconst (pc' := 232) X562 hx (4 : Int32) (hb hby d1_231) rfl rfl ?_
      have f563 := (f559.other W562 ne_b532_a1)
      refine own_laload (pc' := 233) (v := (.long (0 : Int64))) X562 hx hZ e562 f563 ⟨by decide, by decide⟩ rfl (hb hby d1_232) rfl ?_
      have f564 := (((((((((((((((F_moving4.other W511 (Or.inr (slot_ne (Or.inr (own_w hw 38 rfl)) (Or.inr (own_w hw 16 rfl)) (by decide) (t := .long) (t' := .int) (by decide +kernel) (by decide +kernel)))).other W515 (Or.inr (slot_ne (Or.inr (own_w hw 38 rfl)) (Or.inr (own_w hw 19 rfl)) (by decide) (t := .long) (t' := .int) (by decide +kernel) (by decide +kernel)))).other W518 (Or.inr (slot_ne (Or.inr (own_w hw 38 rfl)) (Or.inr (own_w hw 21 rfl)) (by decide) (t := .long) (t' := .long) (by decide +kernel) (by decide +kernel)))).other W521 (Or.inr (slot_ne (Or.inr (own_w hw 38 rfl)) (Or.inr (own_w hw 23 rfl)) (by decide) (t := .long) (t' := .long) (by decide +kernel) (by decide +kernel)))).other W525 (Or.inr (slot_ne (Or.inr (own_w hw 38 rfl)) (Or.inr (own_w hw 25 rfl)) (by decide) (t := .long) (t' := .int) (by decide +kernel) (by decide +kernel)))).other W530 (Or.inr (slot_ne (Or.inr (own_w hw 38 rfl)) (Or.inr (own_w hw 27 rfl)) (by decide) (t := .long) (t' := .long) (by decide +kernel) (by decide +kernel)))).ext E532).keep K536 (ninS ne_a1_b532 nin0)).keep K539 (ninS ne_a1_b532 nin0)).keep K542 (ninS ne_a1_b532 nin0)).keep K545 (ninS ne_a1_b532 nin0)).other W550 (Or.inr (slot_ne (Or.inr (own_w hw 38 rfl)) (Or.inr (own_w hw 30 rfl)) (by decide) (t := .long) (t' := .long) (by decide +kernel) (by decide +kernel)))).other W554 (Or.inr (slot_ne (Or.inr (own_w hw 38 rfl)) (Or.inr (own_w hw 32 rfl)) (by decide) (t := .long) (t' := .long) (by decide +kernel) (by decide +kernel)))).other W558 (Or.inr (slot_ne (Or.inr (own_w hw 38 rfl)) (Or.inr (own_w hw 34 rfl)) (by decide) (t := .long) (t' := .long) (by decide +kernel) (by decide +kernel)))).other W562 (Or.inr (slot_ne (Or.inr (own_w hw 38 rfl)) (Or.inr (own_w hw 36 rfl)) (by decide) (t := .long) (t' := .long) (by decide +kernel) (by decide +kernel))))
      have f565 := (f561.wr W562)
      refine own_putF (pc' := 236) X562 hx hZ hown (host := "") (Or.inl (own_w hw 37 rfl)) Via.refl e562 f564 f565 (Or.inr ⟨(own_w hw 38 rfl), rfl, hnm⟩) (own_w hw 2 rfl) (ty := .long) (by decide) rfl rfl (hb hby d1_233) rfl ?_
      intro T566 h566 X566 e566 W566
      have z566 : n0 ≤ h566.size := Nat.le_trans z562 (Keep.of_wr W566).1
      have Fw566 := f564.same W566
      have N566 := Fr.snoc X566 N562 g_a1
      have K566 : Keep h0 h566 [a1] := K562.wr W566 (Or.inl (List.mem_of_getElem? (i := 0) rfl))
      refine own_aloadN (pc' := 237) X566 hx (hb hby d1_236) rfl rfl rfl ?_
      refine own_iload (pc' := 239) X566 hx (hb hby d1_237) rfl rfl ?_
      have f567 := ((((((((((((((((F_distance0.other W511 (Or.inr (slot_ne (Or.inr (own_w hw 40 rfl)) (Or.inr (own_w hw 16 rfl)) (by decide) (t := .int) (t' := .int) (by decide +kernel) (by decide +kernel)))).other W515 (Or.inr (slot_ne (Or.inr (own_w hw 40 rfl)) (Or.inr (own_w hw 19 rfl)) (by decide) (t := .int) (t' := .int) (by decide +kernel) (by decide +kernel)))).other W518 (Or.inr (slot_ne (Or.inr (own_w hw 40 rfl)) (Or.inr (own_w hw 21 rfl)) (by decide) (t := .int) (t' := .long) (by decide +kernel) (by decide +kernel)))).other W521 (Or.inr (slot_ne (Or.inr (own_w hw 40 rfl)) (Or.inr (own_w hw 23 rfl)) (by decide) (t := .int) (t' := .long) (by decide +kernel) (by decide +kernel)))).other W525 (Or.inr (slot_ne (Or.inr (own_w hw 40 rfl)) (Or.inr (own_w hw 25 rfl)) (by decide) (t := .int) (t' := .int) (by decide +kernel) (by decide +kernel)))).other W530 (Or.inr (slot_ne (Or.inr (own_w hw 40 rfl)) (Or.inr (own_w hw 27 rfl)) (by decide) (t := .int) (t' := .long) (by decide +kernel) (by decide +kernel)))).ext E532).keep K536 (ninS ne_a1_b532 nin0)).keep K539 (ninS ne_a1_b532 nin0)).keep K542 (ninS ne_a1_b532 nin0)).keep K545 (ninS ne_a1_b532 nin0)).other W550 (Or.inr (slot_ne (Or.inr (own_w hw 40 rfl)) (Or.inr (own_w hw 30 rfl)) (by decide) (t := .int) (t' := .long) (by decide +kernel) (by decide +kernel)))).other W554 (Or.inr (slot_ne (Or.inr (own_w hw 40 rfl)) (Or.inr (own_w hw 32 rfl)) (by decide) (t := .int) (t' := .long) (by decide +kernel) (by decide +kernel)))).other W558 (Or.inr (slot_ne (Or.inr (own_w hw 40 rfl)) (Or.inr (own_w hw 34 rfl)) (by decide) (t := .int) (t' := .long) (by decide +kernel) (by decide +kernel)))).other W562 (Or.inr (slot_ne (Or.inr (own_w hw 40 rfl)) (Or.inr (own_w hw 36 rfl)) (by decide) (t := .int) (t' := .long) (by decide +kernel) (by decide +kernel)))).other W566 (Or.inr (slot_ne (Or.inr (own_w hw 40 rfl)) (Or.inr (own_w hw 38 rfl)) (by decide) (t := .int) (t' := .long) (by decide +kernel) (by decide +kernel))))
      have f568 := (f565.wr W566)
      refine own_putF (pc' := 242) X566 hx hZ hown (host := "") (Or.inl (own_w hw 39 rfl)) Via.refl e566 f567 f568 (Or.inr ⟨(own_w hw 40 rfl), rfl, hnm⟩) (own_w hw 2 rfl) (ty := .int) (by decide) rfl rfl (hb hby d1_239) rfl ?_
      intro T569 h569 X569 e569 W569
      have z569 : n0 ≤ h569.size := Nat.le_trans z566 (Keep.of_wr W569).1
      have Fw569 := f567.same W569
      have N569 := Fr.snoc X569 N566 g_a1
      have K569 : Keep h0 h569 [a1] := K566.wr W569 (Or.inl (List.mem_of_getElem? (i := 0) rfl))
      refine own_aloadN (pc' := 243) X569 hx (hb hby d1_242) rfl rfl rfl ?_
      refine own_iload (pc' := 245) X569 hx (hb hby d1_243) rfl rfl ?_
      refine own_iconst (pc' := 246) X569 hx (1 : Int32) (hb hby d1_245) rfl rfl ?_
      refine own_ishl (pc' := 247) X569 hx (hb hby d1_246) rfl ?_
      have f570 := (((((((((((((((((F_distance1.other W511 (Or.inr (slot_ne (Or.inr (own_w hw 42 rfl)) (Or.inr (own_w hw 16 rfl)) (by decide) (t := .int) (t' := .int) (by decide +kernel) (by decide +kernel)))).other W515 (Or.inr (slot_ne (Or.inr (own_w hw 42 rfl)) (Or.inr (own_w hw 19 rfl)) (by decide) (t := .int) (t' := .int) (by decide +kernel) (by decide +kernel)))).other W518 (Or.inr (slot_ne (Or.inr (own_w hw 42 rfl)) (Or.inr (own_w hw 21 rfl)) (by decide) (t := .int) (t' := .long) (by decide +kernel) (by decide +kernel)))).other W521 (Or.inr (slot_ne (Or.inr (own_w hw 42 rfl)) (Or.inr (own_w hw 23 rfl)) (by decide) (t := .int) (t' := .long) (by decide +kernel) (by decide +kernel)))).other W525 (Or.inr (slot_ne (Or.inr (own_w hw 42 rfl)) (Or.inr (own_w hw 25 rfl)) (by decide) (t := .int) (t' := .int) (by decide +kernel) (by decide +kernel)))).other W530 (Or.inr (slot_ne (Or.inr (own_w hw 42 rfl)) (Or.inr (own_w hw 27 rfl)) (by decide) (t := .int) (t' := .long) (by decide +kernel) (by decide +kernel)))).ext E532).keep K536 (ninS ne_a1_b532 nin0)).keep K539 (ninS ne_a1_b532 nin0)).keep K542 (ninS ne_a1_b532 nin0)).keep K545 (ninS ne_a1_b532 nin0)).other W550 (Or.inr (slot_ne (Or.inr (own_w hw 42 rfl)) (Or.inr (own_w hw 30 rfl)) (by decide) (t := .int) (t' := .long) (by decide +kernel) (by decide +kernel)))).other W554 (Or.inr (slot_ne (Or.inr (own_w hw 42 rfl)) (Or.inr (own_w hw 32 rfl)) (by decide) (t := .int) (t' := .long) (by decide +kernel) (by decide +kernel)))).other W558 (Or.inr (slot_ne (Or.inr (own_w hw 42 rfl)) (Or.inr (own_w hw 34 rfl)) (by decide) (t := .int) (t' := .long) (by decide +kernel) (by decide +kernel)))).other W562 (Or.inr (slot_ne (Or.inr (own_w hw 42 rfl)) (Or.inr (own_w hw 36 rfl)) (by decide) (t := .int) (t' := .long) (by decide +kernel) (by decide +kernel)))).other W566 (Or.inr (slot_ne (Or.inr (own_w hw 42 rfl)) (Or.inr (own_w hw 38 rfl)) (by decide) (t := .int) (t' := .long) (by decide +kernel) (by decide +kernel)))).other W569 (Or.inr (slot_ne (Or.inr (own_w hw 42 rfl)) (Or.inr (own_w hw 40 rfl)) (by decide) (t := .int) (t' := .int) (by decide +kernel) (by decide +kernel))))
      have f571 := (f568.wr W569)
      obtain ⟨v573, hv573⟩ : ∃ z : Int32, z = (v2 <<< ((1 : Int32) &&& 31)) := ⟨_, rfl⟩
      rw [← hv573]
      refine own_putF (pc' := 250) X569 hx hZ hown (host := "") (Or.inl (own_w hw 41 rfl)) Via.refl e569 f570 f571 (Or.inr ⟨(own_w hw 42 rfl), rfl, hnm⟩) (own_w hw 2 rfl) (ty := .int) (by decide) rfl rfl (hb hby d1_247) rfl ?_
      intro T572 h572 X572 e572 W572
      have z572 : n0 ≤ h572.size := Nat.le_trans z569 (Keep.of_wr W572).1
      have Fw572 := f570.same W572
      have N572 := Fr.snoc X572 N569 g_a1
      have K572 : Keep h0 h572 [a1] := K569.wr W572 (Or.inl (List.mem_of_getElem? (i := 0) rfl))
      refine own_aloadN (pc' := 251) X572 hx (hb hby d1_250) rfl rfl rfl ?_
      refine own_iload (pc' := 253) X572 hx (hb hby d1_251) rfl rfl ?_
      refine own_iconst (pc' := 254) X572 hx (2 : Int32) (hb hby d1_253) rfl rfl ?_
      refine own_ishl (pc' := 255) X572 hx (hb hby d1_254) rfl ?_
      have f574 := ((((((((((((((((((F_distance2.other W511 (Or.inr (slot_ne (Or.inr (own_w hw 44 rfl)) (Or.inr (own_w hw 16 rfl)) (by decide) (t := .int) (t' := .int) (by decide +kernel) (by decide +kernel)))).other W515 (Or.inr (slot_ne (Or.inr (own_w hw 44 rfl)) (Or.inr (own_w hw 19 rfl)) (by decide) (t := .int) (t' := .int) (by decide +kernel) (by decide +kernel)))).other W518 (Or.inr (slot_ne (Or.inr (own_w hw 44 rfl)) (Or.inr (own_w hw 21 rfl)) (by decide) (t := .int) (t' := .long) (by decide +kernel) (by decide +kernel)))).other W521 (Or.inr (slot_ne (Or.inr (own_w hw 44 rfl)) (Or.inr (own_w hw 23 rfl)) (by decide) (t := .int) (t' := .long) (by decide +kernel) (by decide +kernel)))).other W525 (Or.inr (slot_ne (Or.inr (own_w hw 44 rfl)) (Or.inr (own_w hw 25 rfl)) (by decide) (t := .int) (t' := .int) (by decide +kernel) (by decide +kernel)))).other W530 (Or.inr (slot_ne (Or.inr (own_w hw 44 rfl)) (Or.inr (own_w hw 27 rfl)) (by decide) (t := .int) (t' := .long) (by decide +kernel) (by decide +kernel)))).ext E532).keep K536 (ninS ne_a1_b532 nin0)).keep K539 (ninS ne_a1_b532 nin0)).keep K542 (ninS ne_a1_b532 nin0)).keep K545 (ninS ne_a1_b532 nin0)).other W550 (Or.inr (slot_ne (Or.inr (own_w hw 44 rfl)) (Or.inr (own_w hw 30 rfl)) (by decide) (t := .int) (t' := .long) (by decide +kernel) (by decide +kernel)))).other W554 (Or.inr (slot_ne (Or.inr (own_w hw 44 rfl)) (Or.inr (own_w hw 32 rfl)) (by decide) (t := .int) (t' := .long) (by decide +kernel) (by decide +kernel)))).other W558 (Or.inr (slot_ne (Or.inr (own_w hw 44 rfl)) (Or.inr (own_w hw 34 rfl)) (by decide) (t := .int) (t' := .long) (by decide +kernel) (by decide +kernel)))).other W562 (Or.inr (slot_ne (Or.inr (own_w hw 44 rfl)) (Or.inr (own_w hw 36 rfl)) (by decide) (t := .int) (t' := .long) (by decide +kernel) (by decide +kernel)))).other W566 (Or.inr (slot_ne (Or.inr (own_w hw 44 rfl)) (Or.inr (own_w hw 38 rfl)) (by decide) (t := .int) (t' := .long) (by decide +kernel) (by decide +kernel)))).other W569 (Or.inr (slot_ne (Or.inr (own_w hw 44 rfl)) (Or.inr (own_w hw 40 rfl)) (by decide) (t := .int) (t' := .int) (by decide +kernel) (by decide +kernel)))).other W572 (Or.inr (slot_ne (Or.inr (own_w hw 44 rfl)) (Or.inr (own_w hw 42 rfl)) (by decide) (t := .int) (t' := .int) (by decide +kernel) (by decide +kernel))))
      have f575 := (f571.wr W572)
      obtain ⟨v577, hv577⟩ : ∃ z : Int32, z = (v2 <<< ((2 : Int32) &&& 31)) := ⟨_, rfl⟩
      rw [← hv577]
      refine own_putF (pc' := 258) X572 hx hZ hown (host := "") (Or.inl (own_w hw 43 rfl)) Via.refl e572 f574 f575 (Or.inr ⟨(own_w hw 44 rfl), rfl, hnm⟩) (own_w hw 2 rfl) (ty := .int) (by decide) rfl rfl (hb hby d1_255) rfl ?_
      intro T576 h576 X576 e576 W576
      have z576 : n0 ≤ h576.size := Nat.le_trans z572 (Keep.of_wr W576).1
      have Fw576 := f574.same W576
      have N576 := Fr.snoc X576 N572 g_a1
      have K576 : Keep h0 h576 [a1] := K572.wr W576 (Or.inl (List.mem_of_getElem? (i := 0) rfl))
      refine own_aloadN (pc' := 259) X576 hx (hb hby d1_258) rfl rfl rfl ?_
      refine own_iload (pc' := 261) X576 hx (hb hby d1_259) rfl rfl ?_
      refine own_iconst (pc' := 262) X576 hx (3 : Int32) (hb hby d1_261) rfl rfl ?_
      refine own_ishl (pc' := 263) X576 hx (hb hby d1_262) rfl ?_
      have f578 := (((((((((((((((((((F_distance3.other W511 (Or.inr (slot_ne (Or.inr (own_w hw 46 rfl)) (Or.inr (own_w hw 16 rfl)) (by decide) (t := .int) (t' := .int) (by decide +kernel) (by decide +kernel)))).other W515 (Or.inr (slot_ne (Or.inr (own_w hw 46 rfl)) (Or.inr (own_w hw 19 rfl)) (by decide) (t := .int) (t' := .int) (by decide +kernel) (by decide +kernel)))).other W518 (Or.inr (slot_ne (Or.inr (own_w hw 46 rfl)) (Or.inr (own_w hw 21 rfl)) (by decide) (t := .int) (t' := .long) (by decide +kernel) (by decide +kernel)))).other W521 (Or.inr (slot_ne (Or.inr (own_w hw 46 rfl)) (Or.inr (own_w hw 23 rfl)) (by decide) (t := .int) (t' := .long) (by decide +kernel) (by decide +kernel)))).other W525 (Or.inr (slot_ne (Or.inr (own_w hw 46 rfl)) (Or.inr (own_w hw 25 rfl)) (by decide) (t := .int) (t' := .int) (by decide +kernel) (by decide +kernel)))).other W530 (Or.inr (slot_ne (Or.inr (own_w hw 46 rfl)) (Or.inr (own_w hw 27 rfl)) (by decide) (t := .int) (t' := .long) (by decide +kernel) (by decide +kernel)))).ext E532).keep K536 (ninS ne_a1_b532 nin0)).keep K539 (ninS ne_a1_b532 nin0)).keep K542 (ninS ne_a1_b532 nin0)).keep K545 (ninS ne_a1_b532 nin0)).other W550 (Or.inr (slot_ne (Or.inr (own_w hw 46 rfl)) (Or.inr (own_w hw 30 rfl)) (by decide) (t := .int) (t' := .long) (by decide +kernel) (by decide +kernel)))).other W554 (Or.inr (slot_ne (Or.inr (own_w hw 46 rfl)) (Or.inr (own_w hw 32 rfl)) (by decide) (t := .int) (t' := .long) (by decide +kernel) (by decide +kernel)))).other W558 (Or.inr (slot_ne (Or.inr (own_w hw 46 rfl)) (Or.inr (own_w hw 34 rfl)) (by decide) (t := .int) (t' := .long) (by decide +kernel) (by decide +kernel)))).other W562 (Or.inr (slot_ne (Or.inr (own_w hw 46 rfl)) (Or.inr (own_w hw 36 rfl)) (by decide) (t := .int) (t' := .long) (by decide +kernel) (by decide +kernel)))).other W566 (Or.inr (slot_ne (Or.inr (own_w hw 46 rfl)) (Or.inr (own_w hw 38 rfl)) (by decide) (t := .int) (t' := .long) (by decide +kernel) (by decide +kernel)))).other W569 (Or.inr (slot_ne (Or.inr (own_w hw 46 rfl)) (Or.inr (own_w hw 40 rfl)) (by decide) (t := .int) (t' := .int) (by decide +kernel) (by decide +kernel)))).other W572 (Or.inr (slot_ne (Or.inr (own_w hw 46 rfl)) (Or.inr (own_w hw 42 rfl)) (by decide) (t := .int) (t' := .int) (by decide +kernel) (by decide +kernel)))).other W576 (Or.inr (slot_ne (Or.inr (own_w hw 46 rfl)) (Or.inr (own_w hw 44 rfl)) (by decide) (t := .int) (t' := .int) (by decide +kernel) (by decide +kernel))))
      have f579 := (f575.wr W576)
      obtain ⟨v581, hv581⟩ : ∃ z : Int32, z = (v2 <<< ((3 : Int32) &&& 31)) := ⟨_, rfl⟩
      rw [← hv581]
      refine own_putF (pc' := 266) X576 hx hZ hown (host := "") (Or.inl (own_w hw 45 rfl)) Via.refl e576 f578 f579 (Or.inr ⟨(own_w hw 46 rfl), rfl, hnm⟩) (own_w hw 2 rfl) (ty := .int) (by decide) rfl rfl (hb hby d1_263) rfl ?_
      intro T580 h580 X580 e580 W580
      have z580 : n0 ≤ h580.size := Nat.le_trans z576 (Keep.of_wr W580).1
      have Fw580 := f578.same W580
      have N580 := Fr.snoc X580 N576 g_a1
      have K580 : Keep h0 h580 [a1] := K576.wr W580 (Or.inl (List.mem_of_getElem? (i := 0) rfl))
      refine own_aloadN (pc' := 267) X580 hx (hb hby d1_266) rfl rfl rfl ?_
      refine own_iload (pc' := 269) X580 hx (hb hby d1_267) rfl rfl ?_
      refine own_iconst (pc' := 270) X580 hx (4 : Int32) (hb hby d1_269) rfl rfl ?_
      refine own_ishl (pc' := 271) X580 hx (hb hby d1_270) rfl ?_
      have f582 := ((((((((((((((((((((F_distance4.other W511 (Or.inr (slot_ne (Or.inr (own_w hw 48 rfl)) (Or.inr (own_w hw 16 rfl)) (by decide) (t := .int) (t' := .int) (by decide +kernel) (by decide +kernel)))).other W515 (Or.inr (slot_ne (Or.inr (own_w hw 48 rfl)) (Or.inr (own_w hw 19 rfl)) (by decide) (t := .int) (t' := .int) (by decide +kernel) (by decide +kernel)))).other W518 (Or.inr (slot_ne (Or.inr (own_w hw 48 rfl)) (Or.inr (own_w hw 21 rfl)) (by decide) (t := .int) (t' := .long) (by decide +kernel) (by decide +kernel)))).other W521 (Or.inr (slot_ne (Or.inr (own_w hw 48 rfl)) (Or.inr (own_w hw 23 rfl)) (by decide) (t := .int) (t' := .long) (by decide +kernel) (by decide +kernel)))).other W525 (Or.inr (slot_ne (Or.inr (own_w hw 48 rfl)) (Or.inr (own_w hw 25 rfl)) (by decide) (t := .int) (t' := .int) (by decide +kernel) (by decide +kernel)))).other W530 (Or.inr (slot_ne (Or.inr (own_w hw 48 rfl)) (Or.inr (own_w hw 27 rfl)) (by decide) (t := .int) (t' := .long) (by decide +kernel) (by decide +kernel)))).ext E532).keep K536 (ninS ne_a1_b532 nin0)).keep K539 (ninS ne_a1_b532 nin0)).keep K542 (ninS ne_a1_b532 nin0)).keep K545 (ninS ne_a1_b532 nin0)).other W550 (Or.inr (slot_ne (Or.inr (own_w hw 48 rfl)) (Or.inr (own_w hw 30 rfl)) (by decide) (t := .int) (t' := .long) (by decide +kernel) (by decide +kernel)))).other W554 (Or.inr (slot_ne (Or.inr (own_w hw 48 rfl)) (Or.inr (own_w hw 32 rfl)) (by decide) (t := .int) (t' := .long) (by decide +kernel) (by decide +kernel)))).other W558 (Or.inr (slot_ne (Or.inr (own_w hw 48 rfl)) (Or.inr (own_w hw 34 rfl)) (by decide) (t := .int) (t' := .long) (by decide +kernel) (by decide +kernel)))).other W562 (Or.inr (slot_ne (Or.inr (own_w hw 48 rfl)) (Or.inr (own_w hw 36 rfl)) (by decide) (t := .int) (t' := .long) (by decide +kernel) (by decide +kernel)))).other W566 (Or.inr (slot_ne (Or.inr (own_w hw 48 rfl)) (Or.inr (own_w hw 38 rfl)) (by decide) (t := .int) (t' := .long) (by decide +kernel) (by decide +kernel)))).other W569 (Or.inr (slot_ne (Or.inr (own_w hw 48 rfl)) (Or.inr (own_w hw 40 rfl)) (by decide) (t := .int) (t' := .int) (by decide +kernel) (by decide +kernel)))).other W572 (Or.inr (slot_ne (Or.inr (own_w hw 48 rfl)) (Or.inr (own_w hw 42 rfl)) (by decide) (t := .int) (t' := .int) (by decide +kernel) (by decide +kernel)))).other W576 (Or.inr (slot_ne (Or.inr (own_w hw 48 rfl)) (Or.inr (own_w hw 44 rfl)) (by decide) (t := .int) (t' := .int) (by decide +kernel) (by decide +kernel)))).other W580 (Or.inr (slot_ne (Or.inr (own_w hw 48 rfl)) (Or.inr (own_w hw 46 rfl)) (by decide) (t := .int) (t' := .int) (by decide +kernel) (by decide +kernel))))
      have f583 := (f579.wr W580)
      obtain ⟨v585, hv585⟩ : ∃ z : Int32, z = (v2 <<< ((4 : Int32) &&& 31)) := ⟨_, rfl⟩
      rw [← hv585]
      refine own_putF (pc' := 274) X580 hx hZ hown (host := "") (Or.inl (own_w hw 47 rfl)) Via.refl e580 f582 f583 (Or.inr ⟨(own_w hw 48 rfl), rfl, hnm⟩) (own_w hw 2 rfl) (ty := .int) (by decide) rfl rfl (hb hby d1_271) rfl ?_
      intro T584 h584 X584 e584 W584
      have z584 : n0 ≤ h584.size := Nat.le_trans z580 (Keep.of_wr W584).1
      have Fw584 := f582.same W584
      have N584 := Fr.snoc X584 N580 g_a1
      have K584 : Keep h0 h584 [a1] := K580.wr W584 (Or.inl (List.mem_of_getElem? (i := 0) rfl))
      refine own_aloadN (pc' := 275) X584 hx (hb hby d1_274) rfl rfl rfl ?_
      refine own_aloadN (pc' := 276) X584 hx (hb hby d1_275) rfl rfl rfl ?_
      have f586 := (((((((((Fw550.other W554 (Or.inr (slot_ne (Or.inr (own_w hw 30 rfl)) (Or.inr (own_w hw 32 rfl)) (by decide) (t := .long) (t' := .long) (by decide +kernel) (by decide +kernel)))).other W558 (Or.inr (slot_ne (Or.inr (own_w hw 30 rfl)) (Or.inr (own_w hw 34 rfl)) (by decide) (t := .long) (t' := .long) (by decide +kernel) (by decide +kernel)))).other W562 (Or.inr (slot_ne (Or.inr (own_w hw 30 rfl)) (Or.inr (own_w hw 36 rfl)) (by decide) (t := .long) (t' := .long) (by decide +kernel) (by decide +kernel)))).other W566 (Or.inr (slot_ne (Or.inr (own_w hw 30 rfl)) (Or.inr (own_w hw 38 rfl)) (by decide) (t := .long) (t' := .long) (by decide +kernel) (by decide +kernel)))).other W569 (Or.inr (slot_ne (Or.inr (own_w hw 30 rfl)) (Or.inr (own_w hw 40 rfl)) (by decide) (t := .long) (t' := .int) (by decide +kernel) (by decide +kernel)))).other W572 (Or.inr (slot_ne (Or.inr (own_w hw 30 rfl)) (Or.inr (own_w hw 42 rfl)) (by decide) (t := .long) (t' := .int) (by decide +kernel) (by decide +kernel)))).other W576 (Or.inr (slot_ne (Or.inr (own_w hw 30 rfl)) (Or.inr (own_w hw 44 rfl)) (by decide) (t := .long) (t' := .int) (by decide +kernel) (by decide +kernel)))).other W580 (Or.inr (slot_ne (Or.inr (own_w hw 30 rfl)) (Or.inr (own_w hw 46 rfl)) (by decide) (t := .long) (t' := .int) (by decide +kernel) (by decide +kernel)))).other W584 (Or.inr (slot_ne (Or.inr (own_w hw 30 rfl)) (Or.inr (own_w hw 48 rfl)) (by decide) (t := .long) (t' := .int) (by decide +kernel) (by decide +kernel))))
      refine own_getF (pc' := 279) X584 hx hZ hown (host := "") (Or.inl (own_w hw 29 rfl)) Via.refl e584 f586 (hb hby d1_276) rfl ?_
      intro T587 X587 e587
      refine own_aloadN (pc' := 280) X587 hx (hb hby d1_279) rfl rfl rfl ?_
      have f588 := ((((Fw569.other W572 (Or.inr (slot_ne (Or.inr (own_w hw 40 rfl)) (Or.inr (own_w hw 42 rfl)) (by decide) (t := .int) (t' := .int) (by decide +kernel) (by decide +kernel)))).other W576 (Or.inr (slot_ne (Or.inr (own_w hw 40 rfl)) (Or.inr (own_w hw 44 rfl)) (by decide) (t := .int) (t' := .int) (by decide +kernel) (by decide +kernel)))).other W580 (Or.inr (slot_ne (Or.inr (own_w hw 40 rfl)) (Or.inr (own_w hw 46 rfl)) (by decide) (t := .int) (t' := .int) (by decide +kernel) (by decide +kernel)))).other W584 (Or.inr (slot_ne (Or.inr (own_w hw 40 rfl)) (Or.inr (own_w hw 48 rfl)) (by decide) (t := .int) (t' := .int) (by decide +kernel) (by decide +kernel))))
      refine own_getF (pc' := 283) X587 hx hZ hown (host := "") (Or.inl (own_w hw 39 rfl)) Via.refl e587 f588 (hb hby d1_280) rfl ?_
      intro T589 X589 e589
      refine own_lushr (pc' := 284) X589 hx (hb hby d1_283) rfl ?_
      have f590 := (((((((((((((((((((((F_moved0.other W511 (Or.inr (slot_ne (Or.inr (own_w hw 50 rfl)) (Or.inr (own_w hw 16 rfl)) (by decide) (t := .long) (t' := .int) (by decide +kernel) (by decide +kernel)))).other W515 (Or.inr (slot_ne (Or.inr (own_w hw 50 rfl)) (Or.inr (own_w hw 19 rfl)) (by decide) (t := .long) (t' := .int) (by decide +kernel) (by decide +kernel)))).other W518 (Or.inr (slot_ne (Or.inr (own_w hw 50 rfl)) (Or.inr (own_w hw 21 rfl)) (by decide) (t := .long) (t' := .long) (by decide +kernel) (by decide +kernel)))).other W521 (Or.inr (slot_ne (Or.inr (own_w hw 50 rfl)) (Or.inr (own_w hw 23 rfl)) (by decide) (t := .long) (t' := .long) (by decide +kernel) (by decide +kernel)))).other W525 (Or.inr (slot_ne (Or.inr (own_w hw 50 rfl)) (Or.inr (own_w hw 25 rfl)) (by decide) (t := .long) (t' := .int) (by decide +kernel) (by decide +kernel)))).other W530 (Or.inr (slot_ne (Or.inr (own_w hw 50 rfl)) (Or.inr (own_w hw 27 rfl)) (by decide) (t := .long) (t' := .long) (by decide +kernel) (by decide +kernel)))).ext E532).keep K536 (ninS ne_a1_b532 nin0)).keep K539 (ninS ne_a1_b532 nin0)).keep K542 (ninS ne_a1_b532 nin0)).keep K545 (ninS ne_a1_b532 nin0)).other W550 (Or.inr (slot_ne (Or.inr (own_w hw 50 rfl)) (Or.inr (own_w hw 30 rfl)) (by decide) (t := .long) (t' := .long) (by decide +kernel) (by decide +kernel)))).other W554 (Or.inr (slot_ne (Or.inr (own_w hw 50 rfl)) (Or.inr (own_w hw 32 rfl)) (by decide) (t := .long) (t' := .long) (by decide +kernel) (by decide +kernel)))).other W558 (Or.inr (slot_ne (Or.inr (own_w hw 50 rfl)) (Or.inr (own_w hw 34 rfl)) (by decide) (t := .long) (t' := .long) (by decide +kernel) (by decide +kernel)))).other W562 (Or.inr (slot_ne (Or.inr (own_w hw 50 rfl)) (Or.inr (own_w hw 36 rfl)) (by decide) (t := .long) (t' := .long) (by decide +kernel) (by decide +kernel)))).other W566 (Or.inr (slot_ne (Or.inr (own_w hw 50 rfl)) (Or.inr (own_w hw 38 rfl)) (by decide) (t := .long) (t' := .long) (by decide +kernel) (by decide +kernel)))).other W569 (Or.inr (slot_ne (Or.inr (own_w hw 50 rfl)) (Or.inr (own_w hw 40 rfl)) (by decide) (t := .long) (t' := .int) (by decide +kernel) (by decide +kernel)))).other W572 (Or.inr (slot_ne (Or.inr (own_w hw 50 rfl)) (Or.inr (own_w hw 42 rfl)) (by decide) (t := .long) (t' := .int) (by decide +kernel) (by decide +kernel)))).other W576 (Or.inr (slot_ne (Or.inr (own_w hw 50 rfl)) (Or.inr (own_w hw 44 rfl)) (by decide) (t := .long) (t' := .int) (by decide +kernel) (by decide +kernel)))).other W580 (Or.inr (slot_ne (Or.inr (own_w hw 50 rfl)) (Or.inr (own_w hw 46 rfl)) (by decide) (t := .long) (t' := .int) (by decide +kernel) (by decide +kernel)))).other W584 (Or.inr (slot_ne (Or.inr (own_w hw 50 rfl)) (Or.inr (own_w hw 48 rfl)) (by decide) (t := .long) (t' := .int) (by decide +kernel) (by decide +kernel))))
      have f591 := (f583.wr W584)
      obtain ⟨v593, hv593⟩ : ∃ z : Int64, z = ((mv536.toUInt64 >>> (v2 &&& 0x3f).toInt64.toUInt64).toInt64) := ⟨_, rfl⟩
      rw [← hv593]
      refine own_putF (pc' := 287) X589 hx hZ hown (host := "") (Or.inl (own_w hw 49 rfl)) Via.refl e589 f590 f591 (Or.inr ⟨(own_w hw 50 rfl), rfl, hnm⟩) (own_w hw 2 rfl) (ty := .long) (by decide) rfl rfl (hb hby d1_284) rfl ?_
      intro T592 h592 X592 e592 W592
      have z592 : n0 ≤ h592.size := Nat.le_trans z584 (Keep.of_wr W592).1
      have Fw592 := f590.same W592
      have N592 := Fr.snoc X592 N584 g_a1
      have K592 : Keep h0 h592 [a1] := K584.wr W592 (Or.inl (List.mem_of_getElem? (i := 0) rfl))
      refine own_aloadN (pc' := 288) X592 hx (hb hby d1_287) rfl rfl rfl ?_
      refine own_aloadN (pc' := 289) X592 hx (hb hby d1_288) rfl rfl rfl ?_
      have f594 := (((((((((Fw554.other W558 (Or.inr (slot_ne (Or.inr (own_w hw 32 rfl)) (Or.inr (own_w hw 34 rfl)) (by decide) (t := .long) (t' := .long) (by decide +kernel) (by decide +kernel)))).other W562 (Or.inr (slot_ne (Or.inr (own_w hw 32 rfl)) (Or.inr (own_w hw 36 rfl)) (by decide) (t := .long) (t' := .long) (by decide +kernel) (by decide +kernel)))).other W566 (Or.inr (slot_ne (Or.inr (own_w hw 32 rfl)) (Or.inr (own_w hw 38 rfl)) (by decide) (t := .long) (t' := .long) (by decide +kernel) (by decide +kernel)))).other W569 (Or.inr (slot_ne (Or.inr (own_w hw 32 rfl)) (Or.inr (own_w hw 40 rfl)) (by decide) (t := .long) (t' := .int) (by decide +kernel) (by decide +kernel)))).other W572 (Or.inr (slot_ne (Or.inr (own_w hw 32 rfl)) (Or.inr (own_w hw 42 rfl)) (by decide) (t := .long) (t' := .int) (by decide +kernel) (by decide +kernel)))).other W576 (Or.inr (slot_ne (Or.inr (own_w hw 32 rfl)) (Or.inr (own_w hw 44 rfl)) (by decide) (t := .long) (t' := .int) (by decide +kernel) (by decide +kernel)))).other W580 (Or.inr (slot_ne (Or.inr (own_w hw 32 rfl)) (Or.inr (own_w hw 46 rfl)) (by decide) (t := .long) (t' := .int) (by decide +kernel) (by decide +kernel)))).other W584 (Or.inr (slot_ne (Or.inr (own_w hw 32 rfl)) (Or.inr (own_w hw 48 rfl)) (by decide) (t := .long) (t' := .int) (by decide +kernel) (by decide +kernel)))).other W592 (Or.inr (slot_ne (Or.inr (own_w hw 32 rfl)) (Or.inr (own_w hw 50 rfl)) (by decide) (t := .long) (t' := .long) (by decide +kernel) (by decide +kernel))))
      refine own_getF (pc' := 292) X592 hx hZ hown (host := "") (Or.inl (own_w hw 31 rfl)) Via.refl e592 f594 (hb hby d1_289) rfl ?_
      intro T595 X595 e595
      refine own_aloadN (pc' := 293) X595 hx (hb hby d1_292) rfl rfl rfl ?_
      have f596 := ((((Fw572.other W576 (Or.inr (slot_ne (Or.inr (own_w hw 42 rfl)) (Or.inr (own_w hw 44 rfl)) (by decide) (t := .int) (t' := .int) (by decide +kernel) (by decide +kernel)))).other W580 (Or.inr (slot_ne (Or.inr (own_w hw 42 rfl)) (Or.inr (own_w hw 46 rfl)) (by decide) (t := .int) (t' := .int) (by decide +kernel) (by decide +kernel)))).other W584 (Or.inr (slot_ne (Or.inr (own_w hw 42 rfl)) (Or.inr (own_w hw 48 rfl)) (by decide) (t := .int) (t' := .int) (by decide +kernel) (by decide +kernel)))).other W592 (Or.inr (slot_ne (Or.inr (own_w hw 42 rfl)) (Or.inr (own_w hw 50 rfl)) (by decide) (t := .int) (t' := .long) (by decide +kernel) (by decide +kernel))))
      refine own_getF (pc' := 296) X595 hx hZ hown (host := "") (Or.inl (own_w hw 41 rfl)) Via.refl e595 f596 (hb hby d1_293) rfl ?_
      intro T597 X597 e597
      refine own_lushr (pc' := 297) X597 hx (hb hby d1_296) rfl ?_
      have f598 := ((((((((((((((((((((((F_moved1.other W511 (Or.inr (slot_ne (Or.inr (own_w hw 52 rfl)) (Or.inr (own_w hw 16 rfl)) (by decide) (t := .long) (t' := .int) (by decide +kernel) (by decide +kernel)))).other W515 (Or.inr (slot_ne (Or.inr (own_w hw 52 rfl)) (Or.inr (own_w hw 19 rfl)) (by decide) (t := .long) (t' := .int) (by decide +kernel) (by decide +kernel)))).other W518 (Or.inr (slot_ne (Or.inr (own_w hw 52 rfl)) (Or.inr (own_w hw 21 rfl)) (by decide) (t := .long) (t' := .long) (by decide +kernel) (by decide +kernel)))).other W521 (Or.inr (slot_ne (Or.inr (own_w hw 52 rfl)) (Or.inr (own_w hw 23 rfl)) (by decide) (t := .long) (t' := .long) (by decide +kernel) (by decide +kernel)))).other W525 (Or.inr (slot_ne (Or.inr (own_w hw 52 rfl)) (Or.inr (own_w hw 25 rfl)) (by decide) (t := .long) (t' := .int) (by decide +kernel) (by decide +kernel)))).other W530 (Or.inr (slot_ne (Or.inr (own_w hw 52 rfl)) (Or.inr (own_w hw 27 rfl)) (by decide) (t := .long) (t' := .long) (by decide +kernel) (by decide +kernel)))).ext E532).keep K536 (ninS ne_a1_b532 nin0)).keep K539 (ninS ne_a1_b532 nin0)).keep K542 (ninS ne_a1_b532 nin0)).keep K545 (ninS ne_a1_b532 nin0)).other W550 (Or.inr (slot_ne (Or.inr (own_w hw 52 rfl)) (Or.inr (own_w hw 30 rfl)) (by decide) (t := .long) (t' := .long) (by decide +kernel) (by decide +kernel)))).other W554 (Or.inr (slot_ne (Or.inr (own_w hw 52 rfl)) (Or.inr (own_w hw 32 rfl)) (by decide) (t := .long) (t' := .long) (by decide +kernel) (by decide +kernel)))).other W558 (Or.inr (slot_ne (Or.inr (own_w hw 52 rfl)) (Or.inr (own_w hw 34 rfl)) (by decide) (t := .long) (t' := .long) (by decide +kernel) (by decide +kernel)))).other W562 (Or.inr (slot_ne (Or.inr (own_w hw 52 rfl)) (Or.inr (own_w hw 36 rfl)) (by decide) (t := .long) (t' := .long) (by decide +kernel) (by decide +kernel)))).other W566 (Or.inr (slot_ne (Or.inr (own_w hw 52 rfl)) (Or.inr (own_w hw 38 rfl)) (by decide) (t := .long) (t' := .long) (by decide +kernel) (by decide +kernel)))).other W569 (Or.inr (slot_ne (Or.inr (own_w hw 52 rfl)) (Or.inr (own_w hw 40 rfl)) (by decide) (t := .long) (t' := .int) (by decide +kernel) (by decide +kernel)))).other W572 (Or.inr (slot_ne (Or.inr (own_w hw 52 rfl)) (Or.inr (own_w hw 42 rfl)) (by decide) (t := .long) (t' := .int) (by decide +kernel) (by decide +kernel)))).other W576 (Or.inr (slot_ne (Or.inr (own_w hw 52 rfl)) (Or.inr (own_w hw 44 rfl)) (by decide) (t := .long) (t' := .int) (by decide +kernel) (by decide +kernel)))).other W580 (Or.inr (slot_ne (Or.inr (own_w hw 52 rfl)) (Or.inr (own_w hw 46 rfl)) (by decide) (t := .long) (t' := .int) (by decide +kernel) (by decide +kernel)))).other W584 (Or.inr (slot_ne (Or.inr (own_w hw 52 rfl)) (Or.inr (own_w hw 48 rfl)) (by decide) (t := .long) (t' := .int) (by decide +kernel) (by decide +kernel)))).other W592 (Or.inr (slot_ne (Or.inr (own_w hw 52 rfl)) (Or.inr (own_w hw 50 rfl)) (by decide) (t := .long) (t' := .long) (by decide +kernel) (by decide +kernel))))
      have f599 := (f591.wr W592)
      obtain ⟨v601, hv601⟩ : ∃ z : Int64, z = ((mv539.toUInt64 >>> (v573 &&& 0x3f).toInt64.toUInt64).toInt64) := ⟨_, rfl⟩
      rw [← hv601]
      refine own_putF (pc' := 300) X597 hx hZ hown (host := "") (Or.inl (own_w hw 51 rfl)) Via.refl e597 f598 f599 (Or.inr ⟨(own_w hw 52 rfl), rfl, hnm⟩) (own_w hw 2 rfl) (ty := .long) (by decide) rfl rfl (hb hby d1_297) rfl ?_
      intro T600 h600 X600 e600 W600
      have z600 : n0 ≤ h600.size := Nat.le_trans z592 (Keep.of_wr W600).1
      have Fw600 := f598.same W600
      have N600 := Fr.snoc X600 N592 g_a1
      have K600 : Keep h0 h600 [a1] := K592.wr W600 (Or.inl (List.mem_of_getElem? (i := 0) rfl))
      refine own_aloadN (pc' := 301) X600 hx (hb hby d1_300) rfl rfl rfl ?_
      refine own_aloadN (pc' := 302) X600 hx (hb hby d1_301) rfl rfl rfl ?_
      have f602 := (((((((((Fw558.other W562 (Or.inr (slot_ne (Or.inr (own_w hw 34 rfl)) (Or.inr (own_w hw 36 rfl)) (by decide) (t := .long) (t' := .long) (by decide +kernel) (by decide +kernel)))).other W566 (Or.inr (slot_ne (Or.inr (own_w hw 34 rfl)) (Or.inr (own_w hw 38 rfl)) (by decide) (t := .long) (t' := .long) (by decide +kernel) (by decide +kernel)))).other W569 (Or.inr (slot_ne (Or.inr (own_w hw 34 rfl)) (Or.inr (own_w hw 40 rfl)) (by decide) (t := .long) (t' := .int) (by decide +kernel) (by decide +kernel)))).other W572 (Or.inr (slot_ne (Or.inr (own_w hw 34 rfl)) (Or.inr (own_w hw 42 rfl)) (by decide) (t := .long) (t' := .int) (by decide +kernel) (by decide +kernel)))).other W576 (Or.inr (slot_ne (Or.inr (own_w hw 34 rfl)) (Or.inr (own_w hw 44 rfl)) (by decide) (t := .long) (t' := .int) (by decide +kernel) (by decide +kernel)))).other W580 (Or.inr (slot_ne (Or.inr (own_w hw 34 rfl)) (Or.inr (own_w hw 46 rfl)) (by decide) (t := .long) (t' := .int) (by decide +kernel) (by decide +kernel)))).other W584 (Or.inr (slot_ne (Or.inr (own_w hw 34 rfl)) (Or.inr (own_w hw 48 rfl)) (by decide) (t := .long) (t' := .int) (by decide +kernel) (by decide +kernel)))).other W592 (Or.inr (slot_ne (Or.inr (own_w hw 34 rfl)) (Or.inr (own_w hw 50 rfl)) (by decide) (t := .long) (t' := .long) (by decide +kernel) (by decide +kernel)))).other W600 (Or.inr (slot_ne (Or.inr (own_w hw 34 rfl)) (Or.inr (own_w hw 52 rfl)) (by decide) (t := .long) (t' := .long) (by decide +kernel) (by decide +kernel))))
      refine own_getF (pc' := 305) X600 hx hZ hown (host := "") (Or.inl (own_w hw 33 rfl)) Via.refl e600 f602 (hb hby d1_302) rfl ?_
      intro T603 X603 e603
      refine own_aloadN (pc' := 306) X603 hx (hb hby d1_305) rfl rfl rfl ?_
      have f604 := ((((Fw576.other W580 (Or.inr (slot_ne (Or.inr (own_w hw 44 rfl)) (Or.inr (own_w hw 46 rfl)) (by decide) (t := .int) (t' := .int) (by decide +kernel) (by decide +kernel)))).other W584 (Or.inr (slot_ne (Or.inr (own_w hw 44 rfl)) (Or.inr (own_w hw 48 rfl)) (by decide) (t := .int) (t' := .int) (by decide +kernel) (by decide +kernel)))).other W592 (Or.inr (slot_ne (Or.inr (own_w hw 44 rfl)) (Or.inr (own_w hw 50 rfl)) (by decide) (t := .int) (t' := .long) (by decide +kernel) (by decide +kernel)))).other W600 (Or.inr (slot_ne (Or.inr (own_w hw 44 rfl)) (Or.inr (own_w hw 52 rfl)) (by decide) (t := .int) (t' := .long) (by decide +kernel) (by decide +kernel))))
      refine own_getF (pc' := 309) X603 hx hZ hown (host := "") (Or.inl (own_w hw 43 rfl)) Via.refl e603 f604 (hb hby d1_306) rfl ?_
      intro T605 X605 e605
      refine own_lushr (pc' := 310) X605 hx (hb hby d1_309) rfl ?_
      have f606 := (((((((((((((((((((((((F_moved2.other W511 (Or.inr (slot_ne (Or.inr (own_w hw 54 rfl)) (Or.inr (own_w hw 16 rfl)) (by decide) (t := .long) (t' := .int) (by decide +kernel) (by decide +kernel)))).other W515 (Or.inr (slot_ne (Or.inr (own_w hw 54 rfl)) (Or.inr (own_w hw 19 rfl)) (by decide) (t := .long) (t' := .int) (by decide +kernel) (by decide +kernel)))).other W518 (Or.inr (slot_ne (Or.inr (own_w hw 54 rfl)) (Or.inr (own_w hw 21 rfl)) (by decide) (t := .long) (t' := .long) (by decide +kernel) (by decide +kernel)))).other W521 (Or.inr (slot_ne (Or.inr (own_w hw 54 rfl)) (Or.inr (own_w hw 23 rfl)) (by decide) (t := .long) (t' := .long) (by decide +kernel) (by decide +kernel)))).other W525 (Or.inr (slot_ne (Or.inr (own_w hw 54 rfl)) (Or.inr (own_w hw 25 rfl)) (by decide) (t := .long) (t' := .int) (by decide +kernel) (by decide +kernel)))).other W530 (Or.inr (slot_ne (Or.inr (own_w hw 54 rfl)) (Or.inr (own_w hw 27 rfl)) (by decide) (t := .long) (t' := .long) (by decide +kernel) (by decide +kernel)))).ext E532).keep K536 (ninS ne_a1_b532 nin0)).keep K539 (ninS ne_a1_b532 nin0)).keep K542 (ninS ne_a1_b532 nin0)).keep K545 (ninS ne_a1_b532 nin0)).other W550 (Or.inr (slot_ne (Or.inr (own_w hw 54 rfl)) (Or.inr (own_w hw 30 rfl)) (by decide) (t := .long) (t' := .long) (by decide +kernel) (by decide +kernel)))).other W554 (Or.inr (slot_ne (Or.inr (own_w hw 54 rfl)) (Or.inr (own_w hw 32 rfl)) (by decide) (t := .long) (t' := .long) (by decide +kernel) (by decide +kernel)))).other W558 (Or.inr (slot_ne (Or.inr (own_w hw 54 rfl)) (Or.inr (own_w hw 34 rfl)) (by decide) (t := .long) (t' := .long) (by decide +kernel) (by decide +kernel)))).other W562 (Or.inr (slot_ne (Or.inr (own_w hw 54 rfl)) (Or.inr (own_w hw 36 rfl)) (by decide) (t := .long) (t' := .long) (by decide +kernel) (by decide +kernel)))).other W566 (Or.inr (slot_ne (Or.inr (own_w hw 54 rfl)) (Or.inr (own_w hw 38 rfl)) (by decide) (t := .long) (t' := .long) (by decide +kernel) (by decide +kernel)))).other W569 (Or.inr (slot_ne (Or.inr (own_w hw 54 rfl)) (Or.inr (own_w hw 40 rfl)) (by decide) (t := .long) (t' := .int) (by decide +kernel) (by decide +kernel)))).other W572 (Or.inr (slot_ne (Or.inr (own_w hw 54 rfl)) (Or.inr (own_w hw 42 rfl)) (by decide) (t := .long) (t' := .int) (by decide +kernel) (by decide +kernel)))).other W576 (Or.inr (slot_ne (Or.inr (own_w hw 54 rfl)) (Or.inr (own_w hw 44 rfl)) (by decide) (t := .long) (t' := .int) (by decide +kernel) (by decide +kernel)))).other W580 (Or.inr (slot_ne (Or.inr (own_w hw 54 rfl)) (Or.inr (own_w hw 46 rfl)) (by decide) (t := .long) (t' := .int) (by decide +kernel) (by decide +kernel)))).other W584 (Or.inr (slot_ne (Or.inr (own_w hw 54 rfl)) (Or.inr (own_w hw 48 rfl)) (by decide) (t := .long) (t' := .int) (by decide +kernel) (by decide +kernel)))).other W592 (Or.inr (slot_ne (Or.inr (own_w hw 54 rfl)) (Or.inr (own_w hw 50 rfl)) (by decide) (t := .long) (t' := .long) (by decide +kernel) (by decide +kernel)))).other W600 (Or.inr (slot_ne (Or.inr (own_w hw 54 rfl)) (Or.inr (own_w hw 52 rfl)) (by decide) (t := .long) (t' := .long) (by decide +kernel) (by decide +kernel))))
      have f607 := (f599.wr W600)
      obtain ⟨v609, hv609⟩ : ∃ z : Int64, z = ((mv542.toUInt64 >>> (v577 &&& 0x3f).toInt64.toUInt64).toInt64) := ⟨_, rfl⟩
      rw [← hv609]
      refine own_putF (pc' := 313) X605 hx hZ hown (host := "") (Or.inl (own_w hw 53 rfl)) Via.refl e605 f606 f607 (Or.inr ⟨(own_w hw 54 rfl), rfl, hnm⟩) (own_w hw 2 rfl) (ty := .long) (by decide) rfl rfl (hb hby d1_310) rfl ?_
      intro T608 h608 X608 e608 W608
      have z608 : n0 ≤ h608.size := Nat.le_trans z600 (Keep.of_wr W608).1
      have Fw608 := f606.same W608
      have N608 := Fr.snoc X608 N600 g_a1
      have K608 : Keep h0 h608 [a1] := K600.wr W608 (Or.inl (List.mem_of_getElem? (i := 0) rfl))
      refine own_aloadN (pc' := 314) X608 hx (hb hby d1_313) rfl rfl rfl ?_
      refine own_aloadN (pc' := 315) X608 hx (hb hby d1_314) rfl rfl rfl ?_
      have f610 := (((((((((Fw562.other W566 (Or.inr (slot_ne (Or.inr (own_w hw 36 rfl)) (Or.inr (own_w hw 38 rfl)) (by decide) (t := .long) (t' := .long) (by decide +kernel) (by decide +kernel)))).other W569 (Or.inr (slot_ne (Or.inr (own_w hw 36 rfl)) (Or.inr (own_w hw 40 rfl)) (by decide) (t := .long) (t' := .int) (by decide +kernel) (by decide +kernel)))).other W572 (Or.inr (slot_ne (Or.inr (own_w hw 36 rfl)) (Or.inr (own_w hw 42 rfl)) (by decide) (t := .long) (t' := .int) (by decide +kernel) (by decide +kernel)))).other W576 (Or.inr (slot_ne (Or.inr (own_w hw 36 rfl)) (Or.inr (own_w hw 44 rfl)) (by decide) (t := .long) (t' := .int) (by decide +kernel) (by decide +kernel)))).other W580 (Or.inr (slot_ne (Or.inr (own_w hw 36 rfl)) (Or.inr (own_w hw 46 rfl)) (by decide) (t := .long) (t' := .int) (by decide +kernel) (by decide +kernel)))).other W584 (Or.inr (slot_ne (Or.inr (own_w hw 36 rfl)) (Or.inr (own_w hw 48 rfl)) (by decide) (t := .long) (t' := .int) (by decide +kernel) (by decide +kernel)))).other W592 (Or.inr (slot_ne (Or.inr (own_w hw 36 rfl)) (Or.inr (own_w hw 50 rfl)) (by decide) (t := .long) (t' := .long) (by decide +kernel) (by decide +kernel)))).other W600 (Or.inr (slot_ne (Or.inr (own_w hw 36 rfl)) (Or.inr (own_w hw 52 rfl)) (by decide) (t := .long) (t' := .long) (by decide +kernel) (by decide +kernel)))).other W608 (Or.inr (slot_ne (Or.inr (own_w hw 36 rfl)) (Or.inr (own_w hw 54 rfl)) (by decide) (t := .long) (t' := .long) (by decide +kernel) (by decide +kernel))))
      refine own_getF (pc' := 318) X608 hx hZ hown (host := "") (Or.inl (own_w hw 35 rfl)) Via.refl e608 f610 (hb hby d1_315) rfl ?_
      intro T611 X611 e611
      refine own_aloadN (pc' := 319) X611 hx (hb hby d1_318) rfl rfl rfl ?_
      have f612 := ((((Fw580.other W584 (Or.inr (slot_ne (Or.inr (own_w hw 46 rfl)) (Or.inr (own_w hw 48 rfl)) (by decide) (t := .int) (t' := .int) (by decide +kernel) (by decide +kernel)))).other W592 (Or.inr (slot_ne (Or.inr (own_w hw 46 rfl)) (Or.inr (own_w hw 50 rfl)) (by decide) (t := .int) (t' := .long) (by decide +kernel) (by decide +kernel)))).other W600 (Or.inr (slot_ne (Or.inr (own_w hw 46 rfl)) (Or.inr (own_w hw 52 rfl)) (by decide) (t := .int) (t' := .long) (by decide +kernel) (by decide +kernel)))).other W608 (Or.inr (slot_ne (Or.inr (own_w hw 46 rfl)) (Or.inr (own_w hw 54 rfl)) (by decide) (t := .int) (t' := .long) (by decide +kernel) (by decide +kernel))))
      refine own_getF (pc' := 322) X611 hx hZ hown (host := "") (Or.inl (own_w hw 45 rfl)) Via.refl e611 f612 (hb hby d1_319) rfl ?_
      intro T613 X613 e613
      refine own_lushr (pc' := 323) X613 hx (hb hby d1_322) rfl ?_
      have f614 := ((((((((((((((((((((((((F_moved3.other W511 (Or.inr (slot_ne (Or.inr (own_w hw 56 rfl)) (Or.inr (own_w hw 16 rfl)) (by decide) (t := .long) (t' := .int) (by decide +kernel) (by decide +kernel)))).other W515 (Or.inr (slot_ne (Or.inr (own_w hw 56 rfl)) (Or.inr (own_w hw 19 rfl)) (by decide) (t := .long) (t' := .int) (by decide +kernel) (by decide +kernel)))).other W518 (Or.inr (slot_ne (Or.inr (own_w hw 56 rfl)) (Or.inr (own_w hw 21 rfl)) (by decide) (t := .long) (t' := .long) (by decide +kernel) (by decide +kernel)))).other W521 (Or.inr (slot_ne (Or.inr (own_w hw 56 rfl)) (Or.inr (own_w hw 23 rfl)) (by decide) (t := .long) (t' := .long) (by decide +kernel) (by decide +kernel)))).other W525 (Or.inr (slot_ne (Or.inr (own_w hw 56 rfl)) (Or.inr (own_w hw 25 rfl)) (by decide) (t := .long) (t' := .int) (by decide +kernel) (by decide +kernel)))).other W530 (Or.inr (slot_ne (Or.inr (own_w hw 56 rfl)) (Or.inr (own_w hw 27 rfl)) (by decide) (t := .long) (t' := .long) (by decide +kernel) (by decide +kernel)))).ext E532).keep K536 (ninS ne_a1_b532 nin0)).keep K539 (ninS ne_a1_b532 nin0)).keep K542 (ninS ne_a1_b532 nin0)).keep K545 (ninS ne_a1_b532 nin0)).other W550 (Or.inr (slot_ne (Or.inr (own_w hw 56 rfl)) (Or.inr (own_w hw 30 rfl)) (by decide) (t := .long) (t' := .long) (by decide +kernel) (by decide +kernel)))).other W554 (Or.inr (slot_ne (Or.inr (own_w hw 56 rfl)) (Or.inr (own_w hw 32 rfl)) (by decide) (t := .long) (t' := .long) (by decide +kernel) (by decide +kernel)))).other W558 (Or.inr (slot_ne (Or.inr (own_w hw 56 rfl)) (Or.inr (own_w hw 34 rfl)) (by decide) (t := .long) (t' := .long) (by decide +kernel) (by decide +kernel)))).other W562 (Or.inr (slot_ne (Or.inr (own_w hw 56 rfl)) (Or.inr (own_w hw 36 rfl)) (by decide) (t := .long) (t' := .long) (by decide +kernel) (by decide +kernel)))).other W566 (Or.inr (slot_ne (Or.inr (own_w hw 56 rfl)) (Or.inr (own_w hw 38 rfl)) (by decide) (t := .long) (t' := .long) (by decide +kernel) (by decide +kernel)))).other W569 (Or.inr (slot_ne (Or.inr (own_w hw 56 rfl)) (Or.inr (own_w hw 40 rfl)) (by decide) (t := .long) (t' := .int) (by decide +kernel) (by decide +kernel)))).other W572 (Or.inr (slot_ne (Or.inr (own_w hw 56 rfl)) (Or.inr (own_w hw 42 rfl)) (by decide) (t := .long) (t' := .int) (by decide +kernel) (by decide +kernel)))).other W576 (Or.inr (slot_ne (Or.inr (own_w hw 56 rfl)) (Or.inr (own_w hw 44 rfl)) (by decide) (t := .long) (t' := .int) (by decide +kernel) (by decide +kernel)))).other W580 (Or.inr (slot_ne (Or.inr (own_w hw 56 rfl)) (Or.inr (own_w hw 46 rfl)) (by decide) (t := .long) (t' := .int) (by decide +kernel) (by decide +kernel)))).other W584 (Or.inr (slot_ne (Or.inr (own_w hw 56 rfl)) (Or.inr (own_w hw 48 rfl)) (by decide) (t := .long) (t' := .int) (by decide +kernel) (by decide +kernel)))).other W592 (Or.inr (slot_ne (Or.inr (own_w hw 56 rfl)) (Or.inr (own_w hw 50 rfl)) (by decide) (t := .long) (t' := .long) (by decide +kernel) (by decide +kernel)))).other W600 (Or.inr (slot_ne (Or.inr (own_w hw 56 rfl)) (Or.inr (own_w hw 52 rfl)) (by decide) (t := .long) (t' := .long) (by decide +kernel) (by decide +kernel)))).other W608 (Or.inr (slot_ne (Or.inr (own_w hw 56 rfl)) (Or.inr (own_w hw 54 rfl)) (by decide) (t := .long) (t' := .long) (by decide +kernel) (by decide +kernel))))
      have f615 := (f607.wr W608)
      obtain ⟨v617, hv617⟩ : ∃ z : Int64, z = ((mv545.toUInt64 >>> (v581 &&& 0x3f).toInt64.toUInt64).toInt64) := ⟨_, rfl⟩
      rw [← hv617]
      refine own_putF (pc' := 326) X613 hx hZ hown (host := "") (Or.inl (own_w hw 55 rfl)) Via.refl e613 f614 f615 (Or.inr ⟨(own_w hw 56 rfl), rfl, hnm⟩) (own_w hw 2 rfl) (ty := .long) (by decide) rfl rfl (hb hby d1_323) rfl ?_
      intro T616 h616 X616 e616 W616
      have z616 : n0 ≤ h616.size := Nat.le_trans z608 (Keep.of_wr W616).1
      have Fw616 := f614.same W616
      have N616 := Fr.snoc X616 N608 g_a1
      have K616 : Keep h0 h616 [a1] := K608.wr W616 (Or.inl (List.mem_of_getElem? (i := 0) rfl))
      refine own_aloadN (pc' := 327) X616 hx (hb hby d1_326) rfl rfl rfl ?_
      refine own_aloadN (pc' := 328) X616 hx (hb hby d1_327) rfl rfl rfl ?_
      have f618 := (((((((((Fw566.other W569 (Or.inr (slot_ne (Or.inr (own_w hw 38 rfl)) (Or.inr (own_w hw 40 rfl)) (by decide) (t := .long) (t' := .int) (by decide +kernel) (by decide +kernel)))).other W572 (Or.inr (slot_ne (Or.inr (own_w hw 38 rfl)) (Or.inr (own_w hw 42 rfl)) (by decide) (t := .long) (t' := .int) (by decide +kernel) (by decide +kernel)))).other W576 (Or.inr (slot_ne (Or.inr (own_w hw 38 rfl)) (Or.inr (own_w hw 44 rfl)) (by decide) (t := .long) (t' := .int) (by decide +kernel) (by decide +kernel)))).other W580 (Or.inr (slot_ne (Or.inr (own_w hw 38 rfl)) (Or.inr (own_w hw 46 rfl)) (by decide) (t := .long) (t' := .int) (by decide +kernel) (by decide +kernel)))).other W584 (Or.inr (slot_ne (Or.inr (own_w hw 38 rfl)) (Or.inr (own_w hw 48 rfl)) (by decide) (t := .long) (t' := .int) (by decide +kernel) (by decide +kernel)))).other W592 (Or.inr (slot_ne (Or.inr (own_w hw 38 rfl)) (Or.inr (own_w hw 50 rfl)) (by decide) (t := .long) (t' := .long) (by decide +kernel) (by decide +kernel)))).other W600 (Or.inr (slot_ne (Or.inr (own_w hw 38 rfl)) (Or.inr (own_w hw 52 rfl)) (by decide) (t := .long) (t' := .long) (by decide +kernel) (by decide +kernel)))).other W608 (Or.inr (slot_ne (Or.inr (own_w hw 38 rfl)) (Or.inr (own_w hw 54 rfl)) (by decide) (t := .long) (t' := .long) (by decide +kernel) (by decide +kernel)))).other W616 (Or.inr (slot_ne (Or.inr (own_w hw 38 rfl)) (Or.inr (own_w hw 56 rfl)) (by decide) (t := .long) (t' := .long) (by decide +kernel) (by decide +kernel))))
      refine own_getF (pc' := 331) X616 hx hZ hown (host := "") (Or.inl (own_w hw 37 rfl)) Via.refl e616 f618 (hb hby d1_328) rfl ?_
      intro T619 X619 e619
      refine own_aloadN (pc' := 332) X619 hx (hb hby d1_331) rfl rfl rfl ?_
      have f620 := ((((Fw584.other W592 (Or.inr (slot_ne (Or.inr (own_w hw 48 rfl)) (Or.inr (own_w hw 50 rfl)) (by decide) (t := .int) (t' := .long) (by decide +kernel) (by decide +kernel)))).other W600 (Or.inr (slot_ne (Or.inr (own_w hw 48 rfl)) (Or.inr (own_w hw 52 rfl)) (by decide) (t := .int) (t' := .long) (by decide +kernel) (by decide +kernel)))).other W608 (Or.inr (slot_ne (Or.inr (own_w hw 48 rfl)) (Or.inr (own_w hw 54 rfl)) (by decide) (t := .int) (t' := .long) (by decide +kernel) (by decide +kernel)))).other W616 (Or.inr (slot_ne (Or.inr (own_w hw 48 rfl)) (Or.inr (own_w hw 56 rfl)) (by decide) (t := .int) (t' := .long) (by decide +kernel) (by decide +kernel))))
      refine own_getF (pc' := 335) X619 hx hZ hown (host := "") (Or.inl (own_w hw 47 rfl)) Via.refl e619 f620 (hb hby d1_332) rfl ?_
      intro T621 X621 e621
      refine own_lushr (pc' := 336) X621 hx (hb hby d1_335) rfl ?_
      have f622 := (((((((((((((((((((((((((F_moved4.other W511 (Or.inr (slot_ne (Or.inr (own_w hw 58 rfl)) (Or.inr (own_w hw 16 rfl)) (by decide) (t := .long) (t' := .int) (by decide +kernel) (by decide +kernel)))).other W515 (Or.inr (slot_ne (Or.inr (own_w hw 58 rfl)) (Or.inr (own_w hw 19 rfl)) (by decide) (t := .long) (t' := .int) (by decide +kernel) (by decide +kernel)))).other W518 (Or.inr (slot_ne (Or.inr (own_w hw 58 rfl)) (Or.inr (own_w hw 21 rfl)) (by decide) (t := .long) (t' := .long) (by decide +kernel) (by decide +kernel)))).other W521 (Or.inr (slot_ne (Or.inr (own_w hw 58 rfl)) (Or.inr (own_w hw 23 rfl)) (by decide) (t := .long) (t' := .long) (by decide +kernel) (by decide +kernel)))).other W525 (Or.inr (slot_ne (Or.inr (own_w hw 58 rfl)) (Or.inr (own_w hw 25 rfl)) (by decide) (t := .long) (t' := .int) (by decide +kernel) (by decide +kernel)))).other W530 (Or.inr (slot_ne (Or.inr (own_w hw 58 rfl)) (Or.inr (own_w hw 27 rfl)) (by decide) (t := .long) (t' := .long) (by decide +kernel) (by decide +kernel)))).ext E532).keep K536 (ninS ne_a1_b532 nin0)).keep K539 (ninS ne_a1_b532 nin0)).keep K542 (ninS ne_a1_b532 nin0)).keep K545 (ninS ne_a1_b532 nin0)).other W550 (Or.inr (slot_ne (Or.inr (own_w hw 58 rfl)) (Or.inr (own_w hw 30 rfl)) (by decide) (t := .long) (t' := .long) (by decide +kernel) (by decide +kernel)))).other W554 (Or.inr (slot_ne (Or.inr (own_w hw 58 rfl)) (Or.inr (own_w hw 32 rfl)) (by decide) (t := .long) (t' := .long) (by decide +kernel) (by decide +kernel)))).other W558 (Or.inr (slot_ne (Or.inr (own_w hw 58 rfl)) (Or.inr (own_w hw 34 rfl)) (by decide) (t := .long) (t' := .long) (by decide +kernel) (by decide +kernel)))).other W562 (Or.inr (slot_ne (Or.inr (own_w hw 58 rfl)) (Or.inr (own_w hw 36 rfl)) (by decide) (t := .long) (t' := .long) (by decide +kernel) (by decide +kernel)))).other W566 (Or.inr (slot_ne (Or.inr (own_w hw 58 rfl)) (Or.inr (own_w hw 38 rfl)) (by decide) (t := .long) (t' := .long) (by decide +kernel) (by decide +kernel)))).other W569 (Or.inr (slot_ne (Or.inr (own_w hw 58 rfl)) (Or.inr (own_w hw 40 rfl)) (by decide) (t := .long) (t' := .int) (by decide +kernel) (by decide +kernel)))).other W572 (Or.inr (slot_ne (Or.inr (own_w hw 58 rfl)) (Or.inr (own_w hw 42 rfl)) (by decide) (t := .long) (t' := .int) (by decide +kernel) (by decide +kernel)))).other W576 (Or.inr (slot_ne (Or.inr (own_w hw 58 rfl)) (Or.inr (own_w hw 44 rfl)) (by decide) (t := .long) (t' := .int) (by decide +kernel) (by decide +kernel)))).other W580 (Or.inr (slot_ne (Or.inr (own_w hw 58 rfl)) (Or.inr (own_w hw 46 rfl)) (by decide) (t := .long) (t' := .int) (by decide +kernel) (by decide +kernel)))).other W584 (Or.inr (slot_ne (Or.inr (own_w hw 58 rfl)) (Or.inr (own_w hw 48 rfl)) (by decide) (t := .long) (t' := .int) (by decide +kernel) (by decide +kernel)))).other W592 (Or.inr (slot_ne (Or.inr (own_w hw 58 rfl)) (Or.inr (own_w hw 50 rfl)) (by decide) (t := .long) (t' := .long) (by decide +kernel) (by decide +kernel)))).other W600 (Or.inr (slot_ne (Or.inr (own_w hw 58 rfl)) (Or.inr (own_w hw 52 rfl)) (by decide) (t := .long) (t' := .long) (by decide +kernel) (by decide +kernel)))).other W608 (Or.inr (slot_ne (Or.inr (own_w hw 58 rfl)) (Or.inr (own_w hw 54 rfl)) (by decide) (t := .long) (t' := .long) (by decide +kernel) (by decide +kernel)))).other W616 (Or.inr (slot_ne (Or.inr (own_w hw 58 rfl)) (Or.inr (own_w hw 56 rfl)) (by decide) (t := .long) (t' := .long) (by decide +kernel) (by decide +kernel))))
      have f623 := (f615.wr W616)
      obtain ⟨v625, hv625⟩ : ∃ z : Int64, z = (((0 : Int64).toUInt64 >>> (v585 &&& 0x3f).toInt64.toUInt64).toInt64) := ⟨_, rfl⟩
      rw [← hv625]
      refine own_putF (pc' := 339) X621 hx hZ hown (host := "") (Or.inl (own_w hw 57 rfl)) Via.refl e621 f622 f623 (Or.inr ⟨(own_w hw 58 rfl), rfl, hnm⟩) (own_w hw 2 rfl) (ty := .long) (by decide) rfl rfl (hb hby d1_336) rfl ?_
      intro T624 h624 X624 e624 W624
      have z624 : n0 ≤ h624.size := Nat.le_trans z616 (Keep.of_wr W624).1
      have Fw624 := f622.same W624
      have N624 := Fr.snoc X624 N616 g_a1
      have K624 : Keep h0 h624 [a1] := K616.wr W624 (Or.inl (List.mem_of_getElem? (i := 0) rfl))
      have f626 := ((((((((((((((((((((((((Fw515.other W518 (Or.inr (slot_ne (Or.inr (own_w hw 19 rfl)) (Or.inr (own_w hw 21 rfl)) (by decide) (t := .int) (t' := .long) (by decide +kernel) (by decide +kernel)))).other W521 (Or.inr (slot_ne (Or.inr (own_w hw 19 rfl)) (Or.inr (own_w hw 23 rfl)) (by decide) (t := .int) (t' := .long) (by decide +kernel) (by decide +kernel)))).other W525 (Or.inr (slot_ne (Or.inr (own_w hw 19 rfl)) (Or.inr (own_w hw 25 rfl)) (by decide) (t := .int) (t' := .int) (by decide +kernel) (by decide +kernel)))).other W530 (Or.inr (slot_ne (Or.inr (own_w hw 19 rfl)) (Or.inr (own_w hw 27 rfl)) (by decide) (t := .int) (t' := .long) (by decide +kernel) (by decide +kernel)))).ext E532).keep K536 (ninS ne_a1_b532 nin0)).keep K539 (ninS ne_a1_b532 nin0)).keep K542 (ninS ne_a1_b532 nin0)).keep K545 (ninS ne_a1_b532 nin0)).other W550 (Or.inr (slot_ne (Or.inr (own_w hw 19 rfl)) (Or.inr (own_w hw 30 rfl)) (by decide) (t := .int) (t' := .long) (by decide +kernel) (by decide +kernel)))).other W554 (Or.inr (slot_ne (Or.inr (own_w hw 19 rfl)) (Or.inr (own_w hw 32 rfl)) (by decide) (t := .int) (t' := .long) (by decide +kernel) (by decide +kernel)))).other W558 (Or.inr (slot_ne (Or.inr (own_w hw 19 rfl)) (Or.inr (own_w hw 34 rfl)) (by decide) (t := .int) (t' := .long) (by decide +kernel) (by decide +kernel)))).other W562 (Or.inr (slot_ne (Or.inr (own_w hw 19 rfl)) (Or.inr (own_w hw 36 rfl)) (by decide) (t := .int) (t' := .long) (by decide +kernel) (by decide +kernel)))).other W566 (Or.inr (slot_ne (Or.inr (own_w hw 19 rfl)) (Or.inr (own_w hw 38 rfl)) (by decide) (t := .int) (t' := .long) (by decide +kernel) (by decide +kernel)))).other W569 (Or.inr (slot_ne (Or.inr (own_w hw 19 rfl)) (Or.inr (own_w hw 40 rfl)) (by decide) (t := .int) (t' := .int) (by decide +kernel) (by decide +kernel)))).other W572 (Or.inr (slot_ne (Or.inr (own_w hw 19 rfl)) (Or.inr (own_w hw 42 rfl)) (by decide) (t := .int) (t' := .int) (by decide +kernel) (by decide +kernel)))).other W576 (Or.inr (slot_ne (Or.inr (own_w hw 19 rfl)) (Or.inr (own_w hw 44 rfl)) (by decide) (t := .int) (t' := .int) (by decide +kernel) (by decide +kernel)))).other W580 (Or.inr (slot_ne (Or.inr (own_w hw 19 rfl)) (Or.inr (own_w hw 46 rfl)) (by decide) (t := .int) (t' := .int) (by decide +kernel) (by decide +kernel)))).other W584 (Or.inr (slot_ne (Or.inr (own_w hw 19 rfl)) (Or.inr (own_w hw 48 rfl)) (by decide) (t := .int) (t' := .int) (by decide +kernel) (by decide +kernel)))).other W592 (Or.inr (slot_ne (Or.inr (own_w hw 19 rfl)) (Or.inr (own_w hw 50 rfl)) (by decide) (t := .int) (t' := .long) (by decide +kernel) (by decide +kernel)))).other W600 (Or.inr (slot_ne (Or.inr (own_w hw 19 rfl)) (Or.inr (own_w hw 52 rfl)) (by decide) (t := .int) (t' := .long) (by decide +kernel) (by decide +kernel)))).other W608 (Or.inr (slot_ne (Or.inr (own_w hw 19 rfl)) (Or.inr (own_w hw 54 rfl)) (by decide) (t := .int) (t' := .long) (by decide +kernel) (by decide +kernel)))).other W616 (Or.inr (slot_ne (Or.inr (own_w hw 19 rfl)) (Or.inr (own_w hw 56 rfl)) (by decide) (t := .int) (t' := .long) (by decide +kernel) (by decide +kernel)))).other W624 (Or.inr (slot_ne (Or.inr (own_w hw 19 rfl)) (Or.inr (own_w hw 58 rfl)) (by decide) (t := .int) (t' := .long) (by decide +kernel) (by decide +kernel))))
      have f627 := (((((((((((((((((((((((Fw518.other W521 (Or.inr (slot_ne (Or.inr (own_w hw 21 rfl)) (Or.inr (own_w hw 23 rfl)) (by decide) (t := .long) (t' := .long) (by decide +kernel) (by decide +kernel)))).other W525 (Or.inr (slot_ne (Or.inr (own_w hw 21 rfl)) (Or.inr (own_w hw 25 rfl)) (by decide) (t := .long) (t' := .int) (by decide +kernel) (by decide +kernel)))).other W530 (Or.inr (slot_ne (Or.inr (own_w hw 21 rfl)) (Or.inr (own_w hw 27 rfl)) (by decide) (t := .long) (t' := .long) (by decide +kernel) (by decide +kernel)))).ext E532).keep K536 (ninS ne_a1_b532 nin0)).keep K539 (ninS ne_a1_b532 nin0)).keep K542 (ninS ne_a1_b532 nin0)).keep K545 (ninS ne_a1_b532 nin0)).other W550 (Or.inr (slot_ne (Or.inr (own_w hw 21 rfl)) (Or.inr (own_w hw 30 rfl)) (by decide) (t := .long) (t' := .long) (by decide +kernel) (by decide +kernel)))).other W554 (Or.inr (slot_ne (Or.inr (own_w hw 21 rfl)) (Or.inr (own_w hw 32 rfl)) (by decide) (t := .long) (t' := .long) (by decide +kernel) (by decide +kernel)))).other W558 (Or.inr (slot_ne (Or.inr (own_w hw 21 rfl)) (Or.inr (own_w hw 34 rfl)) (by decide) (t := .long) (t' := .long) (by decide +kernel) (by decide +kernel)))).other W562 (Or.inr (slot_ne (Or.inr (own_w hw 21 rfl)) (Or.inr (own_w hw 36 rfl)) (by decide) (t := .long) (t' := .long) (by decide +kernel) (by decide +kernel)))).other W566 (Or.inr (slot_ne (Or.inr (own_w hw 21 rfl)) (Or.inr (own_w hw 38 rfl)) (by decide) (t := .long) (t' := .long) (by decide +kernel) (by decide +kernel)))).other W569 (Or.inr (slot_ne (Or.inr (own_w hw 21 rfl)) (Or.inr (own_w hw 40 rfl)) (by decide) (t := .long) (t' := .int) (by decide +kernel) (by decide +kernel)))).other W572 (Or.inr (slot_ne (Or.inr (own_w hw 21 rfl)) (Or.inr (own_w hw 42 rfl)) (by decide) (t := .long) (t' := .int) (by decide +kernel) (by decide +kernel)))).other W576 (Or.inr (slot_ne (Or.inr (own_w hw 21 rfl)) (Or.inr (own_w hw 44 rfl)) (by decide) (t := .long) (t' := .int) (by decide +kernel) (by decide +kernel)))).other W580 (Or.inr (slot_ne (Or.inr (own_w hw 21 rfl)) (Or.inr (own_w hw 46 rfl)) (by decide) (t := .long) (t' := .int) (by decide +kernel) (by decide +kernel)))).other W584 (Or.inr (slot_ne (Or.inr (own_w hw 21 rfl)) (Or.inr (own_w hw 48 rfl)) (by decide) (t := .long) (t' := .int) (by decide +kernel) (by decide +kernel)))).other W592 (Or.inr (slot_ne (Or.inr (own_w hw 21 rfl)) (Or.inr (own_w hw 50 rfl)) (by decide) (t := .long) (t' := .long) (by decide +kernel) (by decide +kernel)))).other W600 (Or.inr (slot_ne (Or.inr (own_w hw 21 rfl)) (Or.inr (own_w hw 52 rfl)) (by decide) (t := .long) (t' := .long) (by decide +kernel) (by decide +kernel)))).other W608 (Or.inr (slot_ne (Or.inr (own_w hw 21 rfl)) (Or.inr (own_w hw 54 rfl)) (by decide) (t := .long) (t' := .long) (by decide +kernel) (by decide +kernel)))).other W616 (Or.inr (slot_ne (Or.inr (own_w hw 21 rfl)) (Or.inr (own_w hw 56 rfl)) (by decide) (t := .long) (t' := .long) (by decide +kernel) (by decide +kernel)))).other W624 (Or.inr (slot_ne (Or.inr (own_w hw 21 rfl)) (Or.inr (own_w hw 58 rfl)) (by decide) (t := .long) (t' := .long) (by decide +kernel) (by decide +kernel))))
      have f628 := ((((((((((((((((((((Fw530.ext E532).keep K536 (ninS ne_a1_b532 nin0)).keep K539 (ninS ne_a1_b532 nin0)).keep K542 (ninS ne_a1_b532 nin0)).keep K545 (ninS ne_a1_b532 nin0)).other W550 (Or.inr (slot_ne (Or.inr (own_w hw 27 rfl)) (Or.inr (own_w hw 30 rfl)) (by decide) (t := .long) (t' := .long) (by decide +kernel) (by decide +kernel)))).other W554 (Or.inr (slot_ne (Or.inr (own_w hw 27 rfl)) (Or.inr (own_w hw 32 rfl)) (by decide) (t := .long) (t' := .long) (by decide +kernel) (by decide +kernel)))).other W558 (Or.inr (slot_ne (Or.inr (own_w hw 27 rfl)) (Or.inr (own_w hw 34 rfl)) (by decide) (t := .long) (t' := .long) (by decide +kernel) (by decide +kernel)))).other W562 (Or.inr (slot_ne (Or.inr (own_w hw 27 rfl)) (Or.inr (own_w hw 36 rfl)) (by decide) (t := .long) (t' := .long) (by decide +kernel) (by decide +kernel)))).other W566 (Or.inr (slot_ne (Or.inr (own_w hw 27 rfl)) (Or.inr (own_w hw 38 rfl)) (by decide) (t := .long) (t' := .long) (by decide +kernel) (by decide +kernel)))).other W569 (Or.inr (slot_ne (Or.inr (own_w hw 27 rfl)) (Or.inr (own_w hw 40 rfl)) (by decide) (t := .long) (t' := .int) (by decide +kernel) (by decide +kernel)))).other W572 (Or.inr (slot_ne (Or.inr (own_w hw 27 rfl)) (Or.inr (own_w hw 42 rfl)) (by decide) (t := .long) (t' := .int) (by decide +kernel) (by decide +kernel)))).other W576 (Or.inr (slot_ne (Or.inr (own_w hw 27 rfl)) (Or.inr (own_w hw 44 rfl)) (by decide) (t := .long) (t' := .int) (by decide +kernel) (by decide +kernel)))).other W580 (Or.inr (slot_ne (Or.inr (own_w hw 27 rfl)) (Or.inr (own_w hw 46 rfl)) (by decide) (t := .long) (t' := .int) (by decide +kernel) (by decide +kernel)))).other W584 (Or.inr (slot_ne (Or.inr (own_w hw 27 rfl)) (Or.inr (own_w hw 48 rfl)) (by decide) (t := .long) (t' := .int) (by decide +kernel) (by decide +kernel)))).other W592 (Or.inr (slot_ne (Or.inr (own_w hw 27 rfl)) (Or.inr (own_w hw 50 rfl)) (by decide) (t := .long) (t' := .long) (by decide +kernel) (by decide +kernel)))).other W600 (Or.inr (slot_ne (Or.inr (own_w hw 27 rfl)) (Or.inr (own_w hw 52 rfl)) (by decide) (t := .long) (t' := .long) (by decide +kernel) (by decide +kernel)))).other W608 (Or.inr (slot_ne (Or.inr (own_w hw 27 rfl)) (Or.inr (own_w hw 54 rfl)) (by decide) (t := .long) (t' := .long) (by decide +kernel) (by decide +kernel)))).other W616 (Or.inr (slot_ne (Or.inr (own_w hw 27 rfl)) (Or.inr (own_w hw 56 rfl)) (by decide) (t := .long) (t' := .long) (by decide +kernel) (by decide +kernel)))).other W624 (Or.inr (slot_ne (Or.inr (own_w hw 27 rfl)) (Or.inr (own_w hw 58 rfl)) (by decide) (t := .long) (t' := .long) (by decide +kernel) (by decide +kernel))))
      have f629 := (((((((((((((((f546.other W550 (Or.inr (slot_ne (Or.inr (own_w hw 16 rfl)) (Or.inr (own_w hw 30 rfl)) (by decide) (t := .int) (t' := .long) (by decide +kernel) (by decide +kernel)))).other W554 (Or.inr (slot_ne (Or.inr (own_w hw 16 rfl)) (Or.inr (own_w hw 32 rfl)) (by decide) (t := .int) (t' := .long) (by decide +kernel) (by decide +kernel)))).other W558 (Or.inr (slot_ne (Or.inr (own_w hw 16 rfl)) (Or.inr (own_w hw 34 rfl)) (by decide) (t := .int) (t' := .long) (by decide +kernel) (by decide +kernel)))).other W562 (Or.inr (slot_ne (Or.inr (own_w hw 16 rfl)) (Or.inr (own_w hw 36 rfl)) (by decide) (t := .int) (t' := .long) (by decide +kernel) (by decide +kernel)))).other W566 (Or.inr (slot_ne (Or.inr (own_w hw 16 rfl)) (Or.inr (own_w hw 38 rfl)) (by decide) (t := .int) (t' := .long) (by decide +kernel) (by decide +kernel)))).other W569 (Or.inr (slot_ne (Or.inr (own_w hw 16 rfl)) (Or.inr (own_w hw 40 rfl)) (by decide) (t := .int) (t' := .int) (by decide +kernel) (by decide +kernel)))).other W572 (Or.inr (slot_ne (Or.inr (own_w hw 16 rfl)) (Or.inr (own_w hw 42 rfl)) (by decide) (t := .int) (t' := .int) (by decide +kernel) (by decide +kernel)))).other W576 (Or.inr (slot_ne (Or.inr (own_w hw 16 rfl)) (Or.inr (own_w hw 44 rfl)) (by decide) (t := .int) (t' := .int) (by decide +kernel) (by decide +kernel)))).other W580 (Or.inr (slot_ne (Or.inr (own_w hw 16 rfl)) (Or.inr (own_w hw 46 rfl)) (by decide) (t := .int) (t' := .int) (by decide +kernel) (by decide +kernel)))).other W584 (Or.inr (slot_ne (Or.inr (own_w hw 16 rfl)) (Or.inr (own_w hw 48 rfl)) (by decide) (t := .int) (t' := .int) (by decide +kernel) (by decide +kernel)))).other W592 (Or.inr (slot_ne (Or.inr (own_w hw 16 rfl)) (Or.inr (own_w hw 50 rfl)) (by decide) (t := .int) (t' := .long) (by decide +kernel) (by decide +kernel)))).other W600 (Or.inr (slot_ne (Or.inr (own_w hw 16 rfl)) (Or.inr (own_w hw 52 rfl)) (by decide) (t := .int) (t' := .long) (by decide +kernel) (by decide +kernel)))).other W608 (Or.inr (slot_ne (Or.inr (own_w hw 16 rfl)) (Or.inr (own_w hw 54 rfl)) (by decide) (t := .int) (t' := .long) (by decide +kernel) (by decide +kernel)))).other W616 (Or.inr (slot_ne (Or.inr (own_w hw 16 rfl)) (Or.inr (own_w hw 56 rfl)) (by decide) (t := .int) (t' := .long) (by decide +kernel) (by decide +kernel)))).other W624 (Or.inr (slot_ne (Or.inr (own_w hw 16 rfl)) (Or.inr (own_w hw 58 rfl)) (by decide) (t := .int) (t' := .long) (by decide +kernel) (by decide +kernel))))
      have f630 := (((((f586.other W592 (Or.inr (slot_ne (Or.inr (own_w hw 30 rfl)) (Or.inr (own_w hw 50 rfl)) (by decide) (t := .long) (t' := .long) (by decide +kernel) (by decide +kernel)))).other W600 (Or.inr (slot_ne (Or.inr (own_w hw 30 rfl)) (Or.inr (own_w hw 52 rfl)) (by decide) (t := .long) (t' := .long) (by decide +kernel) (by decide +kernel)))).other W608 (Or.inr (slot_ne (Or.inr (own_w hw 30 rfl)) (Or.inr (own_w hw 54 rfl)) (by decide) (t := .long) (t' := .long) (by decide +kernel) (by decide +kernel)))).other W616 (Or.inr (slot_ne (Or.inr (own_w hw 30 rfl)) (Or.inr (own_w hw 56 rfl)) (by decide) (t := .long) (t' := .long) (by decide +kernel) (by decide +kernel)))).other W624 (Or.inr (slot_ne (Or.inr (own_w hw 30 rfl)) (Or.inr (own_w hw 58 rfl)) (by decide) (t := .long) (t' := .long) (by decide +kernel) (by decide +kernel))))
      have f631 := ((((f594.other W600 (Or.inr (slot_ne (Or.inr (own_w hw 32 rfl)) (Or.inr (own_w hw 52 rfl)) (by decide) (t := .long) (t' := .long) (by decide +kernel) (by decide +kernel)))).other W608 (Or.inr (slot_ne (Or.inr (own_w hw 32 rfl)) (Or.inr (own_w hw 54 rfl)) (by decide) (t := .long) (t' := .long) (by decide +kernel) (by decide +kernel)))).other W616 (Or.inr (slot_ne (Or.inr (own_w hw 32 rfl)) (Or.inr (own_w hw 56 rfl)) (by decide) (t := .long) (t' := .long) (by decide +kernel) (by decide +kernel)))).other W624 (Or.inr (slot_ne (Or.inr (own_w hw 32 rfl)) (Or.inr (own_w hw 58 rfl)) (by decide) (t := .long) (t' := .long) (by decide +kernel) (by decide +kernel))))
      have f632 := (((f602.other W608 (Or.inr (slot_ne (Or.inr (own_w hw 34 rfl)) (Or.inr (own_w hw 54 rfl)) (by decide) (t := .long) (t' := .long) (by decide +kernel) (by decide +kernel)))).other W616 (Or.inr (slot_ne (Or.inr (own_w hw 34 rfl)) (Or.inr (own_w hw 56 rfl)) (by decide) (t := .long) (t' := .long) (by decide +kernel) (by decide +kernel)))).other W624 (Or.inr (slot_ne (Or.inr (own_w hw 34 rfl)) (Or.inr (own_w hw 58 rfl)) (by decide) (t := .long) (t' := .long) (by decide +kernel) (by decide +kernel))))
      have f633 := ((f610.other W616 (Or.inr (slot_ne (Or.inr (own_w hw 36 rfl)) (Or.inr (own_w hw 56 rfl)) (by decide) (t := .long) (t' := .long) (by decide +kernel) (by decide +kernel)))).other W624 (Or.inr (slot_ne (Or.inr (own_w hw 36 rfl)) (Or.inr (own_w hw 58 rfl)) (by decide) (t := .long) (t' := .long) (by decide +kernel) (by decide +kernel))))
      have f634 := (f618.other W624 (Or.inr (slot_ne (Or.inr (own_w hw 38 rfl)) (Or.inr (own_w hw 58 rfl)) (by decide) (t := .long) (t' := .long) (by decide +kernel) (by decide +kernel))))
      have f635 := ((((Fw592.other W600 (Or.inr (slot_ne (Or.inr (own_w hw 50 rfl)) (Or.inr (own_w hw 52 rfl)) (by decide) (t := .long) (t' := .long) (by decide +kernel) (by decide +kernel)))).other W608 (Or.inr (slot_ne (Or.inr (own_w hw 50 rfl)) (Or.inr (own_w hw 54 rfl)) (by decide) (t := .long) (t' := .long) (by decide +kernel) (by decide +kernel)))).other W616 (Or.inr (slot_ne (Or.inr (own_w hw 50 rfl)) (Or.inr (own_w hw 56 rfl)) (by decide) (t := .long) (t' := .long) (by decide +kernel) (by decide +kernel)))).other W624 (Or.inr (slot_ne (Or.inr (own_w hw 50 rfl)) (Or.inr (own_w hw 58 rfl)) (by decide) (t := .long) (t' := .long) (by decide +kernel) (by decide +kernel))))
      have f636 := (((Fw600.other W608 (Or.inr (slot_ne (Or.inr (own_w hw 52 rfl)) (Or.inr (own_w hw 54 rfl)) (by decide) (t := .long) (t' := .long) (by decide +kernel) (by decide +kernel)))).other W616 (Or.inr (slot_ne (Or.inr (own_w hw 52 rfl)) (Or.inr (own_w hw 56 rfl)) (by decide) (t := .long) (t' := .long) (by decide +kernel) (by decide +kernel)))).other W624 (Or.inr (slot_ne (Or.inr (own_w hw 52 rfl)) (Or.inr (own_w hw 58 rfl)) (by decide) (t := .long) (t' := .long) (by decide +kernel) (by decide +kernel))))
      have f637 := ((Fw608.other W616 (Or.inr (slot_ne (Or.inr (own_w hw 54 rfl)) (Or.inr (own_w hw 56 rfl)) (by decide) (t := .long) (t' := .long) (by decide +kernel) (by decide +kernel)))).other W624 (Or.inr (slot_ne (Or.inr (own_w hw 54 rfl)) (Or.inr (own_w hw 58 rfl)) (by decide) (t := .long) (t' := .long) (by decide +kernel) (by decide +kernel))))
      have f638 := (Fw616.other W624 (Or.inr (slot_ne (Or.inr (own_w hw 56 rfl)) (Or.inr (own_w hw 58 rfl)) (by decide) (t := .long) (t' := .long) (by decide +kernel) (by decide +kernel))))
      have f639 := (((((f588.other W592 (Or.inr (slot_ne (Or.inr (own_w hw 40 rfl)) (Or.inr (own_w hw 50 rfl)) (by decide) (t := .int) (t' := .long) (by decide +kernel) (by decide +kernel)))).other W600 (Or.inr (slot_ne (Or.inr (own_w hw 40 rfl)) (Or.inr (own_w hw 52 rfl)) (by decide) (t := .int) (t' := .long) (by decide +kernel) (by decide +kernel)))).other W608 (Or.inr (slot_ne (Or.inr (own_w hw 40 rfl)) (Or.inr (own_w hw 54 rfl)) (by decide) (t := .int) (t' := .long) (by decide +kernel) (by decide +kernel)))).other W616 (Or.inr (slot_ne (Or.inr (own_w hw 40 rfl)) (Or.inr (own_w hw 56 rfl)) (by decide) (t := .int) (t' := .long) (by decide +kernel) (by decide +kernel)))).other W624 (Or.inr (slot_ne (Or.inr (own_w hw 40 rfl)) (Or.inr (own_w hw 58 rfl)) (by decide) (t := .int) (t' := .long) (by decide +kernel) (by decide +kernel))))
      have f640 := ((((f596.other W600 (Or.inr (slot_ne (Or.inr (own_w hw 42 rfl)) (Or.inr (own_w hw 52 rfl)) (by decide) (t := .int) (t' := .long) (by decide +kernel) (by decide +kernel)))).other W608 (Or.inr (slot_ne (Or.inr (own_w hw 42 rfl)) (Or.inr (own_w hw 54 rfl)) (by decide) (t := .int) (t' := .long) (by decide +kernel) (by decide +kernel)))).other W616 (Or.inr (slot_ne (Or.inr (own_w hw 42 rfl)) (Or.inr (own_w hw 56 rfl)) (by decide) (t := .int) (t' := .long) (by decide +kernel) (by decide +kernel)))).other W624 (Or.inr (slot_ne (Or.inr (own_w hw 42 rfl)) (Or.inr (own_w hw 58 rfl)) (by decide) (t := .int) (t' := .long) (by decide +kernel) (by decide +kernel))))
      have f641 := (((f604.other W608 (Or.inr (slot_ne (Or.inr (own_w hw 44 rfl)) (Or.inr (own_w hw 54 rfl)) (by decide) (t := .int) (t' := .long) (by decide +kernel) (by decide +kernel)))).other W616 (Or.inr (slot_ne (Or.inr (own_w hw 44 rfl)) (Or.inr (own_w hw 56 rfl)) (by decide) (t := .int) (t' := .long) (by decide +kernel) (by decide +kernel)))).other W624 (Or.inr (slot_ne (Or.inr (own_w hw 44 rfl)) (Or.inr (own_w hw 58 rfl)) (by decide) (t := .int) (t' := .long) (by decide +kernel) (by decide +kernel))))
      have f642 := ((f612.other W616 (Or.inr (slot_ne (Or.inr (own_w hw 46 rfl)) (Or.inr (own_w hw 56 rfl)) (by decide) (t := .int) (t' := .long) (by decide +kernel) (by decide +kernel)))).other W624 (Or.inr (slot_ne (Or.inr (own_w hw 46 rfl)) (Or.inr (own_w hw 58 rfl)) (by decide) (t := .int) (t' := .long) (by decide +kernel) (by decide +kernel))))
      have f643 := (f620.other W624 (Or.inr (slot_ne (Or.inr (own_w hw 48 rfl)) (Or.inr (own_w hw 58 rfl)) (by decide) (t := .int) (t' := .long) (by decide +kernel) (by decide +kernel))))
      have f644 := (f623.wr W624)
      refine own_ret0 X624 hx hlk hret (hb hby d1_339) (by decide) (by decide) ?_
      rw [e624]
      have hlow : ∀ x, own_bit v531 x = decide (x < nn * wn) := by rw [hv531]; exact own_wbq _ _ (by rw [hv526]; exact own_mulN hN hW (by omega)) (by have := Nat.mul_le_mul hn1 hw1; omega) hcn
      have hd0 : v2.toBitVec.toNat % 64 = 2 ^ 0 * (pn - wn) := by have q := own_shq _ _ hG; have lt0 := (own_dlt hsp hw1 (hRP.2.2 0 (by decide))); show v2.toBitVec.toNat % 64 = 2 ^ 0 * (pn - wn); rw [q]; omega
      have hd1 : v573.toBitVec.toNat % 64 = 2 ^ 1 * (pn - wn) := by rw [hv573]; exact own_dist _ _ 1 _ (by decide) (by decide) hG (own_dlt hsp hw1 (hRP.2.2 1 (by decide)))
      have hd2 : v577.toBitVec.toNat % 64 = 2 ^ 2 * (pn - wn) := by rw [hv577]; exact own_dist _ _ 2 _ (by decide) (by decide) hG (own_dlt hsp hw1 (hRP.2.2 2 (by decide)))
      have hd3 : v581.toBitVec.toNat % 64 = 2 ^ 3 * (pn - wn) := by rw [hv581]; exact own_dist _ _ 3 _ (by decide) (by decide) hG (own_dlt hsp hw1 (hRP.2.2 3 (by decide)))
      have hWM : own_WM wn pn nn 4 vS v531 (own_5 mv536 mv539 mv542 mv545 (0 : Int64)) (own_5 v593 v601 v609 v617 v625) (own_5 v2 v573 v577 v581 v585) := by
        refine ⟨hRP, hUS, hlow, fun r hr => ?_⟩
        rcases (show r = 0 ∨ r = 1 ∨ r = 2 ∨ r = 3 by omega) with rfl | rfl | rfl | rfl
        · exact ⟨hU536, hv593, hd0⟩
        · exact ⟨hU539, hv601, hd1⟩
        · exact ⟨hU542, hv609, hd2⟩
        · exact ⟨hU545, hv617, hd3⟩
      exact ⟨4, _, _, _, _, _, _, _, _, _, _, _, _, _, _, _, _, _, _, by decide, hWM, rfl, N624, K624, f644, f626, f627, f628, f629, f630, f631, f632, f633, f634, f635, f636, f637, f638, Fw624, f639, f640, f641, f642, f643⟩
    · obtain rfl : jr = (5 : Int32) := Int32.toInt_inj.mp (hRR.trans (by decide))
      show own_WP _ _ _ _ _ _ _ (T4.setTop (mkF m 29 #[.val (.ref a1), .val (.int st), .val (.int w), .val (.int p'), .val (.int n'), .val (.int v2), .unset, .unset, .unset, .unset, .unset, .unset, .unset, .unset] [(.int (5 : Int32)), (.ref a1)]))
      refine own_putF (pc' := 32) X4 hx hZ hown (host := "") (Or.inl (own_w hw 15 rfl)) Via.refl e4 F_rounds E1 (Or.inr ⟨(own_w hw 16 rfl), rfl, hnm⟩) (own_w hw 2 rfl) (ty := .int) (by decide) rfl rfl (hb hby d1_29) rfl ?_
      intro T645 h645 X645 e645 W645
      have z645 : n0 ≤ h645.size := Nat.le_trans Z0 (Keep.of_wr W645).1
      have Fw645 := F_rounds.same W645
      have N645 := Fr.snoc X645 N4 g_a1
      have K645 : Keep h0 h645 [a1] := (Keep.refl h0 [a1]).wr W645 (Or.inl (List.mem_of_getElem? (i := 0) rfl))
      refine own_ldc2Long (pc' := 35) X645 hx hZ hown (own_w hw 17 rfl) (hb hby d1_32) rfl ?_
      refine own_bipush (pc' := 37) X645 hx (64 : Int32) (hb hby d1_35) rfl rfl ?_
      refine own_iloadN (pc' := 38) X645 hx (hb hby d1_37) rfl rfl ?_
      refine own_isub (pc' := 39) X645 hx (hb hby d1_38) rfl ?_
      refine own_lushr (pc' := 40) X645 hx (hb hby d1_39) rfl ?_
      obtain ⟨v646, hv646⟩ : ∃ z : Int64, z = (((-1 : Int64).toUInt64 >>> (((64 : Int32) - w) &&& 0x3f).toInt64.toUInt64).toInt64) := ⟨_, rfl⟩
      refine own_lstore (pc' := 42) (l' := #[.val (.ref a1), .val (.int st), .val (.int w), .val (.int p'), .val (.int n'), .val (.int v2), .val (.long v646), .second, .unset, .unset, .unset, .unset, .unset, .unset]) X645 hx (hb hby d1_40) hv646 rfl rfl ?_
      refine own_lconst0 (pc' := 43) X645 hx (hb hby d1_42) rfl ?_
      refine own_lstore (pc' := 45) (l' := #[.val (.ref a1), .val (.int st), .val (.int w), .val (.int p'), .val (.int n'), .val (.int v2), .val (.long v646), .second, .val (.long (0 : Int64)), .second, .unset, .unset, .unset, .unset]) X645 hx (hb hby d1_43) rfl rfl rfl ?_
      refine own_iconst (pc' := 46) X645 hx (0 : Int32) (hb hby d1_45) rfl rfl ?_
      refine own_istore (pc' := 48) (l' := #[.val (.ref a1), .val (.int st), .val (.int w), .val (.int p'), .val (.int n'), .val (.int v2), .val (.long v646), .second, .val (.long (0 : Int64)), .second, .val (.int (0 : Int32)), .unset, .unset, .unset]) X645 hx (hb hby d1_46) rfl rfl rfl ?_
      have hwb : ∀ x, own_bit v646 x = decide (x < wn) := by rw [hv646]; exact own_wbq w wn hW hw1 (by omega)
      refine lpS hw hx hby hml hown hZ X645 a1 st w p' n' v2 v646 wn pn nn hW hP hN hw1 hwp hsp hwb (fun vS runS hUS => ?_) _ 0 0 0 rfl (Nat.zero_le _) (by decide) (own_Up0 _ _ _ _)
      show own_WP _ _ _ _ _ _ _ (T645.setTop (mkF m 73 #[.val (.ref a1), .val (.int st), .val (.int w), .val (.int p'), .val (.int n'), .val (.int v2), .val (.long v646), .second, .val (.long vS), .second, .val (.int runS), .unset, .unset, .unset] []))
      refine own_aloadN (pc' := 74) X645 hx (hb hby d1_73) rfl rfl rfl ?_
      refine own_iloadN (pc' := 75) X645 hx (hb hby d1_74) rfl rfl ?_
      have f647 := (F_start.other W645 (Or.inr (slot_ne (Or.inr (own_w hw 19 rfl)) (Or.inr (own_w hw 16 rfl)) (by decide) (t := .int) (t' := .int) (by decide +kernel) (by decide +kernel))))
      have f648 := (E1.wr W645)
      refine own_putF (pc' := 78) X645 hx hZ hown (host := "") (Or.inl (own_w hw 18 rfl)) Via.refl e645 f647 f648 (Or.inr ⟨(own_w hw 19 rfl), rfl, hnm⟩) (own_w hw 2 rfl) (ty := .int) (by decide) rfl rfl (hb hby d1_75) rfl ?_
      intro T649 h649 X649 e649 W649
      have z649 : n0 ≤ h649.size := Nat.le_trans z645 (Keep.of_wr W649).1
      have Fw649 := f647.same W649
      have N649 := Fr.snoc X649 N645 g_a1
      have K649 : Keep h0 h649 [a1] := K645.wr W649 (Or.inl (List.mem_of_getElem? (i := 0) rfl))
      refine own_aloadN (pc' := 79) X649 hx (hb hby d1_78) rfl rfl rfl ?_
      refine own_lload (pc' := 81) X649 hx (hb hby d1_79) rfl rfl ?_
      have f650 := ((F_runs.other W645 (Or.inr (slot_ne (Or.inr (own_w hw 21 rfl)) (Or.inr (own_w hw 16 rfl)) (by decide) (t := .long) (t' := .int) (by decide +kernel) (by decide +kernel)))).other W649 (Or.inr (slot_ne (Or.inr (own_w hw 21 rfl)) (Or.inr (own_w hw 19 rfl)) (by decide) (t := .long) (t' := .int) (by decide +kernel) (by decide +kernel))))
      have f651 := (f648.wr W649)
      refine own_putF (pc' := 84) X649 hx hZ hown (host := "") (Or.inl (own_w hw 20 rfl)) Via.refl e649 f650 f651 (Or.inr ⟨(own_w hw 21 rfl), rfl, hnm⟩) (own_w hw 2 rfl) (ty := .long) (by decide) rfl rfl (hb hby d1_81) rfl ?_
      intro T652 h652 X652 e652 W652
      have z652 : n0 ≤ h652.size := Nat.le_trans z649 (Keep.of_wr W652).1
      have Fw652 := f650.same W652
      have N652 := Fr.snoc X652 N649 g_a1
      have K652 : Keep h0 h652 [a1] := K649.wr W652 (Or.inl (List.mem_of_getElem? (i := 0) rfl))
      refine own_aloadN (pc' := 85) X652 hx (hb hby d1_84) rfl rfl rfl ?_
      refine own_lload (pc' := 87) X652 hx (hb hby d1_85) rfl rfl ?_
      refine own_iloadN (pc' := 88) X652 hx (hb hby d1_87) rfl rfl ?_
      refine own_lshl (pc' := 89) X652 hx (hb hby d1_88) rfl ?_
      have f653 := (((F_mask.other W645 (Or.inr (slot_ne (Or.inr (own_w hw 23 rfl)) (Or.inr (own_w hw 16 rfl)) (by decide) (t := .long) (t' := .int) (by decide +kernel) (by decide +kernel)))).other W649 (Or.inr (slot_ne (Or.inr (own_w hw 23 rfl)) (Or.inr (own_w hw 19 rfl)) (by decide) (t := .long) (t' := .int) (by decide +kernel) (by decide +kernel)))).other W652 (Or.inr (slot_ne (Or.inr (own_w hw 23 rfl)) (Or.inr (own_w hw 21 rfl)) (by decide) (t := .long) (t' := .long) (by decide +kernel) (by decide +kernel))))
      have f654 := (f651.wr W652)
      obtain ⟨v656, hv656⟩ : ∃ z : Int64, z = (vS <<< (st &&& 0x3f).toInt64) := ⟨_, rfl⟩
      rw [← hv656]
      refine own_putF (pc' := 92) X652 hx hZ hown (host := "") (Or.inl (own_w hw 22 rfl)) Via.refl e652 f653 f654 (Or.inr ⟨(own_w hw 23 rfl), rfl, hnm⟩) (own_w hw 2 rfl) (ty := .long) (by decide) rfl rfl (hb hby d1_89) rfl ?_
      intro T655 h655 X655 e655 W655
      have z655 : n0 ≤ h655.size := Nat.le_trans z652 (Keep.of_wr W655).1
      have Fw655 := f653.same W655
      have N655 := Fr.snoc X655 N652 g_a1
      have K655 : Keep h0 h655 [a1] := K652.wr W655 (Or.inl (List.mem_of_getElem? (i := 0) rfl))
      refine own_aloadN (pc' := 93) X655 hx (hb hby d1_92) rfl rfl rfl ?_
      refine own_iload (pc' := 95) X655 hx (hb hby d1_93) rfl rfl ?_
      refine own_iloadN (pc' := 96) X655 hx (hb hby d1_95) rfl rfl ?_
      refine own_imul (pc' := 97) X655 hx (hb hby d1_96) rfl ?_
      have f657 := ((((F_count.other W645 (Or.inr (slot_ne (Or.inr (own_w hw 25 rfl)) (Or.inr (own_w hw 16 rfl)) (by decide) (t := .int) (t' := .int) (by decide +kernel) (by decide +kernel)))).other W649 (Or.inr (slot_ne (Or.inr (own_w hw 25 rfl)) (Or.inr (own_w hw 19 rfl)) (by decide) (t := .int) (t' := .int) (by decide +kernel) (by decide +kernel)))).other W652 (Or.inr (slot_ne (Or.inr (own_w hw 25 rfl)) (Or.inr (own_w hw 21 rfl)) (by decide) (t := .int) (t' := .long) (by decide +kernel) (by decide +kernel)))).other W655 (Or.inr (slot_ne (Or.inr (own_w hw 25 rfl)) (Or.inr (own_w hw 23 rfl)) (by decide) (t := .int) (t' := .long) (by decide +kernel) (by decide +kernel))))
      have f658 := (f654.wr W655)
      obtain ⟨v660, hv660⟩ : ∃ z : Int32, z = (n' * w) := ⟨_, rfl⟩
      rw [← hv660]
      refine own_putF (pc' := 100) X655 hx hZ hown (host := "") (Or.inl (own_w hw 24 rfl)) Via.refl e655 f657 f658 (Or.inr ⟨(own_w hw 25 rfl), rfl, hnm⟩) (own_w hw 2 rfl) (ty := .int) (by decide) rfl rfl (hb hby d1_97) rfl ?_
      intro T659 h659 X659 e659 W659
      have z659 : n0 ≤ h659.size := Nat.le_trans z655 (Keep.of_wr W659).1
      have Fw659 := f657.same W659
      have N659 := Fr.snoc X659 N655 g_a1
      have K659 : Keep h0 h659 [a1] := K655.wr W659 (Or.inl (List.mem_of_getElem? (i := 0) rfl))
      refine own_aloadN (pc' := 101) X659 hx (hb hby d1_100) rfl rfl rfl ?_
      refine own_ldc2Long (pc' := 104) X659 hx hZ hown (own_w hw 17 rfl) (hb hby d1_101) rfl ?_
      refine own_bipush (pc' := 106) X659 hx (64 : Int32) (hb hby d1_104) rfl rfl ?_
      refine own_aloadN (pc' := 107) X659 hx (hb hby d1_106) rfl rfl rfl ?_
      refine own_getF (pc' := 110) X659 hx hZ hown (host := "") (Or.inl (own_w hw 24 rfl)) Via.refl e659 Fw659 (hb hby d1_107) rfl ?_
      intro T661 X661 e661
      refine own_isub (pc' := 111) X661 hx (hb hby d1_110) rfl ?_
      refine own_lushr (pc' := 112) X661 hx (hb hby d1_111) rfl ?_
      have f662 := (((((F_low.other W645 (Or.inr (slot_ne (Or.inr (own_w hw 27 rfl)) (Or.inr (own_w hw 16 rfl)) (by decide) (t := .long) (t' := .int) (by decide +kernel) (by decide +kernel)))).other W649 (Or.inr (slot_ne (Or.inr (own_w hw 27 rfl)) (Or.inr (own_w hw 19 rfl)) (by decide) (t := .long) (t' := .int) (by decide +kernel) (by decide +kernel)))).other W652 (Or.inr (slot_ne (Or.inr (own_w hw 27 rfl)) (Or.inr (own_w hw 21 rfl)) (by decide) (t := .long) (t' := .long) (by decide +kernel) (by decide +kernel)))).other W655 (Or.inr (slot_ne (Or.inr (own_w hw 27 rfl)) (Or.inr (own_w hw 23 rfl)) (by decide) (t := .long) (t' := .long) (by decide +kernel) (by decide +kernel)))).other W659 (Or.inr (slot_ne (Or.inr (own_w hw 27 rfl)) (Or.inr (own_w hw 25 rfl)) (by decide) (t := .long) (t' := .int) (by decide +kernel) (by decide +kernel))))
      have f663 := (f658.wr W659)
      obtain ⟨v665, hv665⟩ : ∃ z : Int64, z = (((-1 : Int64).toUInt64 >>> (((64 : Int32) - v660) &&& 0x3f).toInt64.toUInt64).toInt64) := ⟨_, rfl⟩
      rw [← hv665]
      refine own_putF (pc' := 115) X661 hx hZ hown (host := "") (Or.inl (own_w hw 26 rfl)) Via.refl e661 f662 f663 (Or.inr ⟨(own_w hw 27 rfl), rfl, hnm⟩) (own_w hw 2 rfl) (ty := .long) (by decide) rfl rfl (hb hby d1_112) rfl ?_
      intro T664 h664 X664 e664 W664
      have z664 : n0 ≤ h664.size := Nat.le_trans z659 (Keep.of_wr W664).1
      have Fw664 := f662.same W664
      have N664 := Fr.snoc X664 N659 g_a1
      have K664 : Keep h0 h664 [a1] := K659.wr W664 (Or.inl (List.mem_of_getElem? (i := 0) rfl))
      refine own_iconst (pc' := 116) X664 hx (5 : Int32) (hb hby d1_115) rfl rfl ?_
      refine own_newP (pc' := 118) (cap := 5) X664 hx hZ (own_w hw 28 rfl) e664 (hb hby d1_116) (by decide) (by decide) (by decide) (by decide) (by decide) rfl ?_
      intro T666 h666 k666 b666 g666 X666 e666 E666 A666
      have f667 := (f663.wr W664)
      have ne_a1_b666 : a1 ≠ b666 := Nat.ne_of_lt (Nat.lt_of_lt_of_le f667.lt (Nat.le_of_eq g666.symm))
      have ne_b666_a1 := ne_a1_b666.symm
      have g_b666 : n0 ≤ b666 := Nat.le_trans z664 (Nat.le_of_eq g666.symm)
      have sz_b666 : h0.size ≤ b666 := Nat.le_trans K664.1 (Nat.le_of_eq g666.symm)
      have z666 : n0 ≤ h666.size := Nat.le_trans z664 E666.1
      have K666 : Keep h0 h666 [a1] := K664.ext E666
      have V666 : Arv Z h666 b666 k666 .long (5 : Int32) [(.long (0 : Int64)), (.long (0 : Int64)), (.long (0 : Int64)), (.long (0 : Int64)), (.long (0 : Int64))] (.long (0 : Int64)) := (Arv.new A666 (by decide)).pad (pad_rep [] (.long (0 : Int64)) 5)
      refine own_astore (pc' := 120) (l' := #[.val (.ref a1), .val (.int st), .val (.int w), .val (.int p'), .val (.int n'), .val (.int v2), .val (.long v646), .second, .val (.long vS), .second, .val (.ref b666), .unset, .unset, .unset]) X666 hx (hb hby d1_118) rfl rfl rfl ?_
      refine own_iconst (pc' := 121) X666 hx (0 : Int32) (hb hby d1_120) rfl rfl ?_
      refine own_istore (pc' := 123) (l' := #[.val (.ref a1), .val (.int st), .val (.int w), .val (.int p'), .val (.int n'), .val (.int v2), .val (.long v646), .second, .val (.long vS), .second, .val (.ref b666), .val (.int (0 : Int32)), .unset, .unset]) X666 hx (hb hby d1_121) rfl rfl rfl ?_
      refine own_iload (pc' := 125) X666 hx (hb hby d1_123) rfl rfl ?_
      refine own_aloadN (pc' := 126) X666 hx (hb hby d1_125) rfl rfl rfl ?_
      have f668 := ((((((Fw645.other W649 (Or.inr (slot_ne (Or.inr (own_w hw 16 rfl)) (Or.inr (own_w hw 19 rfl)) (by decide) (t := .int) (t' := .int) (by decide +kernel) (by decide +kernel)))).other W652 (Or.inr (slot_ne (Or.inr (own_w hw 16 rfl)) (Or.inr (own_w hw 21 rfl)) (by decide) (t := .int) (t' := .long) (by decide +kernel) (by decide +kernel)))).other W655 (Or.inr (slot_ne (Or.inr (own_w hw 16 rfl)) (Or.inr (own_w hw 23 rfl)) (by decide) (t := .int) (t' := .long) (by decide +kernel) (by decide +kernel)))).other W659 (Or.inr (slot_ne (Or.inr (own_w hw 16 rfl)) (Or.inr (own_w hw 25 rfl)) (by decide) (t := .int) (t' := .int) (by decide +kernel) (by decide +kernel)))).other W664 (Or.inr (slot_ne (Or.inr (own_w hw 16 rfl)) (Or.inr (own_w hw 27 rfl)) (by decide) (t := .int) (t' := .long) (by decide +kernel) (by decide +kernel)))).ext E666)
      refine own_getF (pc' := 129) X666 hx hZ hown (host := "") (Or.inl (own_w hw 15 rfl)) Via.refl e666 f668 (hb hby d1_126) rfl ?_
      intro T669 X669 e669
      refine own_icmp_ge (pt := 196) (pf := 132) X669 hx (hb hby d1_129) rfl (by decide) rfl (fun hc129 => absurd (by decide) hc129) (fun hc129 => ?_)
      refine own_iconst (pc' := 133) X669 hx (0 : Int32) (hb hby d1_132) rfl rfl ?_
      refine own_istore (pc' := 135) (l' := #[.val (.ref a1), .val (.int st), .val (.int w), .val (.int p'), .val (.int n'), .val (.int v2), .val (.long v646), .second, .val (.long vS), .second, .val (.ref b666), .val (.int (0 : Int32)), .val (.int (0 : Int32)), .unset]) X669 hx (hb hby d1_133) rfl rfl rfl ?_
      refine lpI hw hx hby hml hown hZ a1 st w p' n' v2 v646 wn pn nn hW hP hN hw1 hwp hsp hwb (pn - wn) hG hg vS b666 (0 : Int32) 0 (by decide) (by decide) k666 [(.long (0 : Int64)), (.long (0 : Int64)), (.long (0 : Int64)), (.long (0 : Int64)), (.long (0 : Int64))] rfl h666 g_b666 (fun T670 h670 L670 run670 mv670 sl670 X670 e670 N670 K670 V670 hU670 hsl670 => ?_) _ T669 h666 _ 0 0 .unset 0 rfl (Nat.zero_le _) (by decide) X669 e669 N664 (Keep.refl _ _) V666 (own_Up0 _ _ _ _) (Or.inl rfl)
      have z670 : n0 ≤ h670.size := Nat.le_trans z666 K670.1
      have KK670 : Keep h0 h670 [a1] := K666.trans K670 (allS (Or.inr sz_b666) all0)
      have V670 : Arv Z h670 b666 k666 .long 5 [(.long mv670), (.long (0 : Int64)), (.long (0 : Int64)), (.long (0 : Int64)), (.long (0 : Int64))] (.long 0) := V670
      show own_WP _ _ _ _ _ _ _ (T670.setTop (mkF m 190 #[.val (.ref a1), .val (.int st), .val (.int w), .val (.int p'), .val (.int n'), .val (.int v2), .val (.long v646), .second, .val (.long vS), .second, .val (.ref b666), .val (.int (0 : Int32)), .val (.int run670), sl670] []))
      refine own_iinc (pc' := 193) (l' := #[.val (.ref a1), .val (.int st), .val (.int w), .val (.int p'), .val (.int n'), .val (.int v2), .val (.long v646), .second, .val (.long vS), .second, .val (.ref b666), .val (.int (1 : Int32)), .val (.int run670), sl670]) X670 hx (hb hby d1_190) rfl (by decide) rfl rfl ?_
      refine own_goto (pc' := 123) X670 hx (hb hby d1_193) (by decide) rfl ?_
      refine own_iload (pc' := 125) X670 hx (hb hby d1_123) rfl rfl ?_
      refine own_aloadN (pc' := 126) X670 hx (hb hby d1_125) rfl rfl rfl ?_
      have f671 := (f668.keep K670 (ninS ne_a1_b666 nin0))
      refine own_getF (pc' := 129) X670 hx hZ hown (host := "") (Or.inl (own_w hw 15 rfl)) Via.refl e670 f671 (hb hby d1_126) rfl ?_
      intro T672 X672 e672
      refine own_icmp_ge (pt := 196) (pf := 132) X672 hx (hb hby d1_129) rfl (by decide) rfl (fun hc129_1 => absurd (by decide) hc129_1) (fun hc129_1 => ?_)
      refine own_iconst (pc' := 133) X672 hx (0 : Int32) (hb hby d1_132) rfl rfl ?_
      refine own_istore (pc' := 135) (l' := #[.val (.ref a1), .val (.int st), .val (.int w), .val (.int p'), .val (.int n'), .val (.int v2), .val (.long v646), .second, .val (.long vS), .second, .val (.ref b666), .val (.int (1 : Int32)), .val (.int (0 : Int32)), sl670]) X672 hx (hb hby d1_133) rfl rfl rfl ?_
      refine lpI hw hx hby hml hown hZ a1 st w p' n' v2 v646 wn pn nn hW hP hN hw1 hwp hsp hwb (pn - wn) hG hg vS b666 (1 : Int32) 1 (by decide) (by decide) k666 [(.long mv670), (.long (0 : Int64)), (.long (0 : Int64)), (.long (0 : Int64)), (.long (0 : Int64))] rfl h670 g_b666 (fun T673 h673 L673 run673 mv673 sl673 X673 e673 N673 K673 V673 hU673 hsl673 => ?_) _ T672 h670 _ 0 0 sl670 0 rfl (Nat.zero_le _) (by decide) X672 e672 N670 (Keep.refl _ _) V670 (own_Up0 _ _ _ _) hsl670
      have z673 : n0 ≤ h673.size := Nat.le_trans z670 K673.1
      have KK673 : Keep h0 h673 [a1] := KK670.trans K673 (allS (Or.inr sz_b666) all0)
      have V673 : Arv Z h673 b666 k666 .long 5 [(.long mv670), (.long mv673), (.long (0 : Int64)), (.long (0 : Int64)), (.long (0 : Int64))] (.long 0) := V673
      show own_WP _ _ _ _ _ _ _ (T673.setTop (mkF m 190 #[.val (.ref a1), .val (.int st), .val (.int w), .val (.int p'), .val (.int n'), .val (.int v2), .val (.long v646), .second, .val (.long vS), .second, .val (.ref b666), .val (.int (1 : Int32)), .val (.int run673), sl673] []))
      refine own_iinc (pc' := 193) (l' := #[.val (.ref a1), .val (.int st), .val (.int w), .val (.int p'), .val (.int n'), .val (.int v2), .val (.long v646), .second, .val (.long vS), .second, .val (.ref b666), .val (.int (2 : Int32)), .val (.int run673), sl673]) X673 hx (hb hby d1_190) rfl (by decide) rfl rfl ?_
      refine own_goto (pc' := 123) X673 hx (hb hby d1_193) (by decide) rfl ?_
      refine own_iload (pc' := 125) X673 hx (hb hby d1_123) rfl rfl ?_
      refine own_aloadN (pc' := 126) X673 hx (hb hby d1_125) rfl rfl rfl ?_
      have f674 := (f671.keep K673 (ninS ne_a1_b666 nin0))
      refine own_getF (pc' := 129) X673 hx hZ hown (host := "") (Or.inl (own_w hw 15 rfl)) Via.refl e673 f674 (hb hby d1_126) rfl ?_
      intro T675 X675 e675
      refine own_icmp_ge (pt := 196) (pf := 132) X675 hx (hb hby d1_129) rfl (by decide) rfl (fun hc129_2 => absurd (by decide) hc129_2) (fun hc129_2 => ?_)
      refine own_iconst (pc' := 133) X675 hx (0 : Int32) (hb hby d1_132) rfl rfl ?_
      refine own_istore (pc' := 135) (l' := #[.val (.ref a1), .val (.int st), .val (.int w), .val (.int p'), .val (.int n'), .val (.int v2), .val (.long v646), .second, .val (.long vS), .second, .val (.ref b666), .val (.int (2 : Int32)), .val (.int (0 : Int32)), sl673]) X675 hx (hb hby d1_133) rfl rfl rfl ?_
      refine lpI hw hx hby hml hown hZ a1 st w p' n' v2 v646 wn pn nn hW hP hN hw1 hwp hsp hwb (pn - wn) hG hg vS b666 (2 : Int32) 2 (by decide) (by decide) k666 [(.long mv670), (.long mv673), (.long (0 : Int64)), (.long (0 : Int64)), (.long (0 : Int64))] rfl h673 g_b666 (fun T676 h676 L676 run676 mv676 sl676 X676 e676 N676 K676 V676 hU676 hsl676 => ?_) _ T675 h673 _ 0 0 sl673 0 rfl (Nat.zero_le _) (by decide) X675 e675 N673 (Keep.refl _ _) V673 (own_Up0 _ _ _ _) hsl673
      have z676 : n0 ≤ h676.size := Nat.le_trans z673 K676.1
      have KK676 : Keep h0 h676 [a1] := KK673.trans K676 (allS (Or.inr sz_b666) all0)
      have V676 : Arv Z h676 b666 k666 .long 5 [(.long mv670), (.long mv673), (.long mv676), (.long (0 : Int64)), (.long (0 : Int64))] (.long 0) := V676
      show own_WP _ _ _ _ _ _ _ (T676.setTop (mkF m 190 #[.val (.ref a1), .val (.int st), .val (.int w), .val (.int p'), .val (.int n'), .val (.int v2), .val (.long v646), .second, .val (.long vS), .second, .val (.ref b666), .val (.int (2 : Int32)), .val (.int run676), sl676] []))
      refine own_iinc (pc' := 193) (l' := #[.val (.ref a1), .val (.int st), .val (.int w), .val (.int p'), .val (.int n'), .val (.int v2), .val (.long v646), .second, .val (.long vS), .second, .val (.ref b666), .val (.int (3 : Int32)), .val (.int run676), sl676]) X676 hx (hb hby d1_190) rfl (by decide) rfl rfl ?_
      refine own_goto (pc' := 123) X676 hx (hb hby d1_193) (by decide) rfl ?_
      refine own_iload (pc' := 125) X676 hx (hb hby d1_123) rfl rfl ?_
      refine own_aloadN (pc' := 126) X676 hx (hb hby d1_125) rfl rfl rfl ?_
      have f677 := (f674.keep K676 (ninS ne_a1_b666 nin0))
      refine own_getF (pc' := 129) X676 hx hZ hown (host := "") (Or.inl (own_w hw 15 rfl)) Via.refl e676 f677 (hb hby d1_126) rfl ?_
      intro T678 X678 e678
      refine own_icmp_ge (pt := 196) (pf := 132) X678 hx (hb hby d1_129) rfl (by decide) rfl (fun hc129_3 => absurd (by decide) hc129_3) (fun hc129_3 => ?_)
      refine own_iconst (pc' := 133) X678 hx (0 : Int32) (hb hby d1_132) rfl rfl ?_
      refine own_istore (pc' := 135) (l' := #[.val (.ref a1), .val (.int st), .val (.int w), .val (.int p'), .val (.int n'), .val (.int v2), .val (.long v646), .second, .val (.long vS), .second, .val (.ref b666), .val (.int (3 : Int32)), .val (.int (0 : Int32)), sl676]) X678 hx (hb hby d1_133) rfl rfl rfl ?_
      refine lpI hw hx hby hml hown hZ a1 st w p' n' v2 v646 wn pn nn hW hP hN hw1 hwp hsp hwb (pn - wn) hG hg vS b666 (3 : Int32) 3 (by decide) (by decide) k666 [(.long mv670), (.long mv673), (.long mv676), (.long (0 : Int64)), (.long (0 : Int64))] rfl h676 g_b666 (fun T679 h679 L679 run679 mv679 sl679 X679 e679 N679 K679 V679 hU679 hsl679 => ?_) _ T678 h676 _ 0 0 sl676 0 rfl (Nat.zero_le _) (by decide) X678 e678 N676 (Keep.refl _ _) V676 (own_Up0 _ _ _ _) hsl676
      have z679 : n0 ≤ h679.size := Nat.le_trans z676 K679.1
      have KK679 : Keep h0 h679 [a1] := KK676.trans K679 (allS (Or.inr sz_b666) all0)
      have V679 : Arv Z h679 b666 k666 .long 5 [(.long mv670), (.long mv673), (.long mv676), (.long mv679), (.long (0 : Int64))] (.long 0) := V679
      show own_WP _ _ _ _ _ _ _ (T679.setTop (mkF m 190 #[.val (.ref a1), .val (.int st), .val (.int w), .val (.int p'), .val (.int n'), .val (.int v2), .val (.long v646), .second, .val (.long vS), .second, .val (.ref b666), .val (.int (3 : Int32)), .val (.int run679), sl679] []))
      refine own_iinc (pc' := 193) (l' := #[.val (.ref a1), .val (.int st), .val (.int w), .val (.int p'), .val (.int n'), .val (.int v2), .val (.long v646), .second, .val (.long vS), .second, .val (.ref b666), .val (.int (4 : Int32)), .val (.int run679), sl679]) X679 hx (hb hby d1_190) rfl (by decide) rfl rfl ?_
      refine own_goto (pc' := 123) X679 hx (hb hby d1_193) (by decide) rfl ?_
      refine own_iload (pc' := 125) X679 hx (hb hby d1_123) rfl rfl ?_
      refine own_aloadN (pc' := 126) X679 hx (hb hby d1_125) rfl rfl rfl ?_
      have f680 := (f677.keep K679 (ninS ne_a1_b666 nin0))
      refine own_getF (pc' := 129) X679 hx hZ hown (host := "") (Or.inl (own_w hw 15 rfl)) Via.refl e679 f680 (hb hby d1_126) rfl ?_
      intro T681 X681 e681
      refine own_icmp_ge (pt := 196) (pf := 132) X681 hx (hb hby d1_129) rfl (by decide) rfl (fun hc129_4 => absurd (by decide) hc129_4) (fun hc129_4 => ?_)
      refine own_iconst (pc' := 133) X681 hx (0 : Int32) (hb hby d1_132) rfl rfl ?_
      refine own_istore (pc' := 135) (l' := #[.val (.ref a1), .val (.int st), .val (.int w), .val (.int p'), .val (.int n'), .val (.int v2), .val (.long v646), .second, .val (.long vS), .second, .val (.ref b666), .val (.int (4 : Int32)), .val (.int (0 : Int32)), sl679]) X681 hx (hb hby d1_133) rfl rfl rfl ?_
      refine lpI hw hx hby hml hown hZ a1 st w p' n' v2 v646 wn pn nn hW hP hN hw1 hwp hsp hwb (pn - wn) hG hg vS b666 (4 : Int32) 4 (by decide) (by decide) k666 [(.long mv670), (.long mv673), (.long mv676), (.long mv679), (.long (0 : Int64))] rfl h679 g_b666 (fun T682 h682 L682 run682 mv682 sl682 X682 e682 N682 K682 V682 hU682 hsl682 => ?_) _ T681 h679 _ 0 0 sl679 0 rfl (Nat.zero_le _) (by decide) X681 e681 N679 (Keep.refl _ _) V679 (own_Up0 _ _ _ _) hsl679
      have z682 : n0 ≤ h682.size := Nat.le_trans z679 K682.1
      have KK682 : Keep h0 h682 [a1] := KK679.trans K682 (allS (Or.inr sz_b666) all0)
      have V682 : Arv Z h682 b666 k666 .long 5 [(.long mv670), (.long mv673), (.long mv676), (.long mv679), (.long mv682)] (.long 0) := V682
      show own_WP _ _ _ _ _ _ _ (T682.setTop (mkF m 190 #[.val (.ref a1), .val (.int st), .val (.int w), .val (.int p'), .val (.int n'), .val (.int v2), .val (.long v646), .second, .val (.long vS), .second, .val (.ref b666), .val (.int (4 : Int32)), .val (.int run682), sl682] []))
      refine own_iinc (pc' := 193) (l' := #[.val (.ref a1), .val (.int st), .val (.int w), .val (.int p'), .val (.int n'), .val (.int v2), .val (.long v646), .second, .val (.long vS), .second, .val (.ref b666), .val (.int (5 : Int32)), .val (.int run682), sl682]) X682 hx (hb hby d1_190) rfl (by decide) rfl rfl ?_
      refine own_goto (pc' := 123) X682 hx (hb hby d1_193) (by decide) rfl ?_
      refine own_iload (pc' := 125) X682 hx (hb hby d1_123) rfl rfl ?_
      refine own_aloadN (pc' := 126) X682 hx (hb hby d1_125) rfl rfl rfl ?_
      have f683 := (f680.keep K682 (ninS ne_a1_b666 nin0))
      refine own_getF (pc' := 129) X682 hx hZ hown (host := "") (Or.inl (own_w hw 15 rfl)) Via.refl e682 f683 (hb hby d1_126) rfl ?_
      intro T684 X684 e684
      refine own_icmp_ge (pt := 196) (pf := 132) X684 hx (hb hby d1_129) rfl (by decide) rfl (fun hc129_5 => ?_) (fun hc129_5 => absurd hc129_5 (by decide))
      refine own_aloadN (pc' := 197) X684 hx (hb hby d1_196) rfl rfl rfl ?_
      refine own_aload (pc' := 199) X684 hx (hb hby d1_197) rfl rfl rfl ?_
      refine own_iconst (pc' := 200) X684 hx (0 : Int32) (hb hby d1_199) rfl rfl ?_
      refine own_laload (pc' := 201) (v := (.long mv670)) X684 hx hZ e684 V682 ⟨by decide, by decide⟩ rfl (hb hby d1_200) rfl ?_
      have f685 := ((((((((((((F_moving0.other W645 (Or.inr (slot_ne (Or.inr (own_w hw 30 rfl)) (Or.inr (own_w hw 16 rfl)) (by decide) (t := .long) (t' := .int) (by decide +kernel) (by decide +kernel)))).other W649 (Or.inr (slot_ne (Or.inr (own_w hw 30 rfl)) (Or.inr (own_w hw 19 rfl)) (by decide) (t := .long) (t' := .int) (by decide +kernel) (by decide +kernel)))).other W652 (Or.inr (slot_ne (Or.inr (own_w hw 30 rfl)) (Or.inr (own_w hw 21 rfl)) (by decide) (t := .long) (t' := .long) (by decide +kernel) (by decide +kernel)))).other W655 (Or.inr (slot_ne (Or.inr (own_w hw 30 rfl)) (Or.inr (own_w hw 23 rfl)) (by decide) (t := .long) (t' := .long) (by decide +kernel) (by decide +kernel)))).other W659 (Or.inr (slot_ne (Or.inr (own_w hw 30 rfl)) (Or.inr (own_w hw 25 rfl)) (by decide) (t := .long) (t' := .int) (by decide +kernel) (by decide +kernel)))).other W664 (Or.inr (slot_ne (Or.inr (own_w hw 30 rfl)) (Or.inr (own_w hw 27 rfl)) (by decide) (t := .long) (t' := .long) (by decide +kernel) (by decide +kernel)))).ext E666).keep K670 (ninS ne_a1_b666 nin0)).keep K673 (ninS ne_a1_b666 nin0)).keep K676 (ninS ne_a1_b666 nin0)).keep K679 (ninS ne_a1_b666 nin0)).keep K682 (ninS ne_a1_b666 nin0))
      have f686 := ((((((f667.ext E666).keep K670).keep K673).keep K676).keep K679).keep K682)
      refine own_putF (pc' := 204) X684 hx hZ hown (host := "") (Or.inl (own_w hw 29 rfl)) Via.refl e684 f685 f686 (Or.inr ⟨(own_w hw 30 rfl), rfl, hnm⟩) (own_w hw 2 rfl) (ty := .long) (by decide) rfl rfl (hb hby d1_201) rfl ?_
      intro T687 h687 X687 e687 W687
      have z687 : n0 ≤ h687.size := Nat.le_trans z682 (Keep.of_wr W687).1
      have Fw687 := f685.same W687
      have N687 := Fr.snoc X687 N682 g_a1
      have K687 : Keep h0 h687 [a1] := KK682.wr W687 (Or.inl (List.mem_of_getElem? (i := 0) rfl))
      refine own_aloadN (pc' := 205) X687 hx (hb hby d1_204) rfl rfl rfl ?_
      refine own_aload (pc' := 207) X687 hx (hb hby d1_205) rfl rfl rfl ?_
      refine own_iconst (pc' := 208) X687 hx (1 : Int32) (hb hby d1_207) rfl rfl ?_
      have f688 := (V682.other W687 ne_b666_a1)
      refine own_laload (pc' := 209) (v := (.long mv673)) X687 hx hZ e687 f688 ⟨by decide, by decide⟩ rfl (hb hby d1_208) rfl ?_
      have f689 := (((((((((((((F_moving1.other W645 (Or.inr (slot_ne (Or.inr (own_w hw 32 rfl)) (Or.inr (own_w hw 16 rfl)) (by decide) (t := .long) (t' := .int) (by decide +kernel) (by decide +kernel)))).other W649 (Or.inr (slot_ne (Or.inr (own_w hw 32 rfl)) (Or.inr (own_w hw 19 rfl)) (by decide) (t := .long) (t' := .int) (by decide +kernel) (by decide +kernel)))).other W652 (Or.inr (slot_ne (Or.inr (own_w hw 32 rfl)) (Or.inr (own_w hw 21 rfl)) (by decide) (t := .long) (t' := .long) (by decide +kernel) (by decide +kernel)))).other W655 (Or.inr (slot_ne (Or.inr (own_w hw 32 rfl)) (Or.inr (own_w hw 23 rfl)) (by decide) (t := .long) (t' := .long) (by decide +kernel) (by decide +kernel)))).other W659 (Or.inr (slot_ne (Or.inr (own_w hw 32 rfl)) (Or.inr (own_w hw 25 rfl)) (by decide) (t := .long) (t' := .int) (by decide +kernel) (by decide +kernel)))).other W664 (Or.inr (slot_ne (Or.inr (own_w hw 32 rfl)) (Or.inr (own_w hw 27 rfl)) (by decide) (t := .long) (t' := .long) (by decide +kernel) (by decide +kernel)))).ext E666).keep K670 (ninS ne_a1_b666 nin0)).keep K673 (ninS ne_a1_b666 nin0)).keep K676 (ninS ne_a1_b666 nin0)).keep K679 (ninS ne_a1_b666 nin0)).keep K682 (ninS ne_a1_b666 nin0)).other W687 (Or.inr (slot_ne (Or.inr (own_w hw 32 rfl)) (Or.inr (own_w hw 30 rfl)) (by decide) (t := .long) (t' := .long) (by decide +kernel) (by decide +kernel))))
      have f690 := (f686.wr W687)
      refine own_putF (pc' := 212) X687 hx hZ hown (host := "") (Or.inl (own_w hw 31 rfl)) Via.refl e687 f689 f690 (Or.inr ⟨(own_w hw 32 rfl), rfl, hnm⟩) (own_w hw 2 rfl) (ty := .long) (by decide) rfl rfl (hb hby d1_209) rfl ?_
      intro T691 h691 X691 e691 W691
      have z691 : n0 ≤ h691.size := Nat.le_trans z687 (Keep.of_wr W691).1
      have Fw691 := f689.same W691
      have N691 := Fr.snoc X691 N687 g_a1
      have K691 : Keep h0 h691 [a1] := K687.wr W691 (Or.inl (List.mem_of_getElem? (i := 0) rfl))
      refine own_aloadN (pc' := 213) X691 hx (hb hby d1_212) rfl rfl rfl ?_
      refine own_aload (pc' := 215) X691 hx (hb hby d1_213) rfl rfl rfl ?_
      refine own_iconst (pc' := 216) X691 hx (2 : Int32) (hb hby d1_215) rfl rfl ?_
      have f692 := (f688.other W691 ne_b666_a1)
      refine own_laload (pc' := 217) (v := (.long mv676)) X691 hx hZ e691 f692 ⟨by decide, by decide⟩ rfl (hb hby d1_216) rfl ?_
      have f693 := ((((((((((((((F_moving2.other W645 (Or.inr (slot_ne (Or.inr (own_w hw 34 rfl)) (Or.inr (own_w hw 16 rfl)) (by decide) (t := .long) (t' := .int) (by decide +kernel) (by decide +kernel)))).other W649 (Or.inr (slot_ne (Or.inr (own_w hw 34 rfl)) (Or.inr (own_w hw 19 rfl)) (by decide) (t := .long) (t' := .int) (by decide +kernel) (by decide +kernel)))).other W652 (Or.inr (slot_ne (Or.inr (own_w hw 34 rfl)) (Or.inr (own_w hw 21 rfl)) (by decide) (t := .long) (t' := .long) (by decide +kernel) (by decide +kernel)))).other W655 (Or.inr (slot_ne (Or.inr (own_w hw 34 rfl)) (Or.inr (own_w hw 23 rfl)) (by decide) (t := .long) (t' := .long) (by decide +kernel) (by decide +kernel)))).other W659 (Or.inr (slot_ne (Or.inr (own_w hw 34 rfl)) (Or.inr (own_w hw 25 rfl)) (by decide) (t := .long) (t' := .int) (by decide +kernel) (by decide +kernel)))).other W664 (Or.inr (slot_ne (Or.inr (own_w hw 34 rfl)) (Or.inr (own_w hw 27 rfl)) (by decide) (t := .long) (t' := .long) (by decide +kernel) (by decide +kernel)))).ext E666).keep K670 (ninS ne_a1_b666 nin0)).keep K673 (ninS ne_a1_b666 nin0)).keep K676 (ninS ne_a1_b666 nin0)).keep K679 (ninS ne_a1_b666 nin0)).keep K682 (ninS ne_a1_b666 nin0)).other W687 (Or.inr (slot_ne (Or.inr (own_w hw 34 rfl)) (Or.inr (own_w hw 30 rfl)) (by decide) (t := .long) (t' := .long) (by decide +kernel) (by decide +kernel)))).other W691 (Or.inr (slot_ne (Or.inr (own_w hw 34 rfl)) (Or.inr (own_w hw 32 rfl)) (by decide) (t := .long) (t' := .long) (by decide +kernel) (by decide +kernel))))
      have f694 := (f690.wr W691)
      refine own_putF (pc' := 220) X691 hx hZ hown (host := "") (Or.inl (own_w hw 33 rfl)) Via.refl e691 f693 f694 (Or.inr ⟨(own_w hw 34 rfl), rfl, hnm⟩) (own_w hw 2 rfl) (ty := .long) (by decide) rfl rfl (hb hby d1_217) rfl ?_
      intro T695 h695 X695 e695 W695
      have z695 : n0 ≤ h695.size := Nat.le_trans z691 (Keep.of_wr W695).1
      have Fw695 := f693.same W695
      have N695 := Fr.snoc X695 N691 g_a1
      have K695 : Keep h0 h695 [a1] := K691.wr W695 (Or.inl (List.mem_of_getElem? (i := 0) rfl))
      refine own_aloadN (pc' := 221) X695 hx (hb hby d1_220) rfl rfl rfl ?_
      refine own_aload (pc' := 223) X695 hx (hb hby d1_221) rfl rfl rfl ?_
      refine own_iconst (pc' := 224) X695 hx (3 : Int32) (hb hby d1_223) rfl rfl ?_
      have f696 := (f692.other W695 ne_b666_a1)
      refine own_laload (pc' := 225) (v := (.long mv679)) X695 hx hZ e695 f696 ⟨by decide, by decide⟩ rfl (hb hby d1_224) rfl ?_
      have f697 := (((((((((((((((F_moving3.other W645 (Or.inr (slot_ne (Or.inr (own_w hw 36 rfl)) (Or.inr (own_w hw 16 rfl)) (by decide) (t := .long) (t' := .int) (by decide +kernel) (by decide +kernel)))).other W649 (Or.inr (slot_ne (Or.inr (own_w hw 36 rfl)) (Or.inr (own_w hw 19 rfl)) (by decide) (t := .long) (t' := .int) (by decide +kernel) (by decide +kernel)))).other W652 (Or.inr (slot_ne (Or.inr (own_w hw 36 rfl)) (Or.inr (own_w hw 21 rfl)) (by decide) (t := .long) (t' := .long) (by decide +kernel) (by decide +kernel)))).other W655 (Or.inr (slot_ne (Or.inr (own_w hw 36 rfl)) (Or.inr (own_w hw 23 rfl)) (by decide) (t := .long) (t' := .long) (by decide +kernel) (by decide +kernel)))).other W659 (Or.inr (slot_ne (Or.inr (own_w hw 36 rfl)) (Or.inr (own_w hw 25 rfl)) (by decide) (t := .long) (t' := .int) (by decide +kernel) (by decide +kernel)))).other W664 (Or.inr (slot_ne (Or.inr (own_w hw 36 rfl)) (Or.inr (own_w hw 27 rfl)) (by decide) (t := .long) (t' := .long) (by decide +kernel) (by decide +kernel)))).ext E666).keep K670 (ninS ne_a1_b666 nin0)).keep K673 (ninS ne_a1_b666 nin0)).keep K676 (ninS ne_a1_b666 nin0)).keep K679 (ninS ne_a1_b666 nin0)).keep K682 (ninS ne_a1_b666 nin0)).other W687 (Or.inr (slot_ne (Or.inr (own_w hw 36 rfl)) (Or.inr (own_w hw 30 rfl)) (by decide) (t := .long) (t' := .long) (by decide +kernel) (by decide +kernel)))).other W691 (Or.inr (slot_ne (Or.inr (own_w hw 36 rfl)) (Or.inr (own_w hw 32 rfl)) (by decide) (t := .long) (t' := .long) (by decide +kernel) (by decide +kernel)))).other W695 (Or.inr (slot_ne (Or.inr (own_w hw 36 rfl)) (Or.inr (own_w hw 34 rfl)) (by decide) (t := .long) (t' := .long) (by decide +kernel) (by decide +kernel))))
      have f698 := (f694.wr W695)
      refine own_putF (pc' := 228) X695 hx hZ hown (host := "") (Or.inl (own_w hw 35 rfl)) Via.refl e695 f697 f698 (Or.inr ⟨(own_w hw 36 rfl), rfl, hnm⟩) (own_w hw 2 rfl) (ty := .long) (by decide) rfl rfl (hb hby d1_225) rfl ?_
      intro T699 h699 X699 e699 W699
      have z699 : n0 ≤ h699.size := Nat.le_trans z695 (Keep.of_wr W699).1
      have Fw699 := f697.same W699
      have N699 := Fr.snoc X699 N695 g_a1
      have K699 : Keep h0 h699 [a1] := K695.wr W699 (Or.inl (List.mem_of_getElem? (i := 0) rfl))
      refine own_aloadN (pc' := 229) X699 hx (hb hby d1_228) rfl rfl rfl ?_
      refine own_aload (pc' := 231) X699 hx (hb hby d1_229) rfl rfl rfl ?_
      refine own_iconst (pc' := 232) X699 hx (4 : Int32) (hb hby d1_231) rfl rfl ?_
      have f700 := (f696.other W699 ne_b666_a1)
      refine own_laload (pc' := 233) (v := (.long mv682)) X699 hx hZ e699 f700 ⟨by decide, by decide⟩ rfl (hb hby d1_232) rfl ?_
      have f701 := ((((((((((((((((F_moving4.other W645 (Or.inr (slot_ne (Or.inr (own_w hw 38 rfl)) (Or.inr (own_w hw 16 rfl)) (by decide) (t := .long) (t' := .int) (by decide +kernel) (by decide +kernel)))).other W649 (Or.inr (slot_ne (Or.inr (own_w hw 38 rfl)) (Or.inr (own_w hw 19 rfl)) (by decide) (t := .long) (t' := .int) (by decide +kernel) (by decide +kernel)))).other W652 (Or.inr (slot_ne (Or.inr (own_w hw 38 rfl)) (Or.inr (own_w hw 21 rfl)) (by decide) (t := .long) (t' := .long) (by decide +kernel) (by decide +kernel)))).other W655 (Or.inr (slot_ne (Or.inr (own_w hw 38 rfl)) (Or.inr (own_w hw 23 rfl)) (by decide) (t := .long) (t' := .long) (by decide +kernel) (by decide +kernel)))).other W659 (Or.inr (slot_ne (Or.inr (own_w hw 38 rfl)) (Or.inr (own_w hw 25 rfl)) (by decide) (t := .long) (t' := .int) (by decide +kernel) (by decide +kernel)))).other W664 (Or.inr (slot_ne (Or.inr (own_w hw 38 rfl)) (Or.inr (own_w hw 27 rfl)) (by decide) (t := .long) (t' := .long) (by decide +kernel) (by decide +kernel)))).ext E666).keep K670 (ninS ne_a1_b666 nin0)).keep K673 (ninS ne_a1_b666 nin0)).keep K676 (ninS ne_a1_b666 nin0)).keep K679 (ninS ne_a1_b666 nin0)).keep K682 (ninS ne_a1_b666 nin0)).other W687 (Or.inr (slot_ne (Or.inr (own_w hw 38 rfl)) (Or.inr (own_w hw 30 rfl)) (by decide) (t := .long) (t' := .long) (by decide +kernel) (by decide +kernel)))).other W691 (Or.inr (slot_ne (Or.inr (own_w hw 38 rfl)) (Or.inr (own_w hw 32 rfl)) (by decide) (t := .long) (t' := .long) (by decide +kernel) (by decide +kernel)))).other W695 (Or.inr (slot_ne (Or.inr (own_w hw 38 rfl)) (Or.inr (own_w hw 34 rfl)) (by decide) (t := .long) (t' := .long) (by decide +kernel) (by decide +kernel)))).other W699 (Or.inr (slot_ne (Or.inr (own_w hw 38 rfl)) (Or.inr (own_w hw 36 rfl)) (by decide) (t := .long) (t' := .long) (by decide +kernel) (by decide +kernel))))
      have f702 := (f698.wr W699)
      refine own_putF (pc' := 236) X699 hx hZ hown (host := "") (Or.inl (own_w hw 37 rfl)) Via.refl e699 f701 f702 (Or.inr ⟨(own_w hw 38 rfl), rfl, hnm⟩) (own_w hw 2 rfl) (ty := .long) (by decide) rfl rfl (hb hby d1_233) rfl ?_
      intro T703 h703 X703 e703 W703
      have z703 : n0 ≤ h703.size := Nat.le_trans z699 (Keep.of_wr W703).1
      have Fw703 := f701.same W703
      have N703 := Fr.snoc X703 N699 g_a1
      have K703 : Keep h0 h703 [a1] := K699.wr W703 (Or.inl (List.mem_of_getElem? (i := 0) rfl))
      refine own_aloadN (pc' := 237) X703 hx (hb hby d1_236) rfl rfl rfl ?_
      refine own_iload (pc' := 239) X703 hx (hb hby d1_237) rfl rfl ?_
      have f704 := (((((((((((((((((F_distance0.other W645 (Or.inr (slot_ne (Or.inr (own_w hw 40 rfl)) (Or.inr (own_w hw 16 rfl)) (by decide) (t := .int) (t' := .int) (by decide +kernel) (by decide +kernel)))).other W649 (Or.inr (slot_ne (Or.inr (own_w hw 40 rfl)) (Or.inr (own_w hw 19 rfl)) (by decide) (t := .int) (t' := .int) (by decide +kernel) (by decide +kernel)))).other W652 (Or.inr (slot_ne (Or.inr (own_w hw 40 rfl)) (Or.inr (own_w hw 21 rfl)) (by decide) (t := .int) (t' := .long) (by decide +kernel) (by decide +kernel)))).other W655 (Or.inr (slot_ne (Or.inr (own_w hw 40 rfl)) (Or.inr (own_w hw 23 rfl)) (by decide) (t := .int) (t' := .long) (by decide +kernel) (by decide +kernel)))).other W659 (Or.inr (slot_ne (Or.inr (own_w hw 40 rfl)) (Or.inr (own_w hw 25 rfl)) (by decide) (t := .int) (t' := .int) (by decide +kernel) (by decide +kernel)))).other W664 (Or.inr (slot_ne (Or.inr (own_w hw 40 rfl)) (Or.inr (own_w hw 27 rfl)) (by decide) (t := .int) (t' := .long) (by decide +kernel) (by decide +kernel)))).ext E666).keep K670 (ninS ne_a1_b666 nin0)).keep K673 (ninS ne_a1_b666 nin0)).keep K676 (ninS ne_a1_b666 nin0)).keep K679 (ninS ne_a1_b666 nin0)).keep K682 (ninS ne_a1_b666 nin0)).other W687 (Or.inr (slot_ne (Or.inr (own_w hw 40 rfl)) (Or.inr (own_w hw 30 rfl)) (by decide) (t := .int) (t' := .long) (by decide +kernel) (by decide +kernel)))).other W691 (Or.inr (slot_ne (Or.inr (own_w hw 40 rfl)) (Or.inr (own_w hw 32 rfl)) (by decide) (t := .int) (t' := .long) (by decide +kernel) (by decide +kernel)))).other W695 (Or.inr (slot_ne (Or.inr (own_w hw 40 rfl)) (Or.inr (own_w hw 34 rfl)) (by decide) (t := .int) (t' := .long) (by decide +kernel) (by decide +kernel)))).other W699 (Or.inr (slot_ne (Or.inr (own_w hw 40 rfl)) (Or.inr (own_w hw 36 rfl)) (by decide) (t := .int) (t' := .long) (by decide +kernel) (by decide +kernel)))).other W703 (Or.inr (slot_ne (Or.inr (own_w hw 40 rfl)) (Or.inr (own_w hw 38 rfl)) (by decide) (t := .int) (t' := .long) (by decide +kernel) (by decide +kernel))))
      have f705 := (f702.wr W703)
      refine own_putF (pc' := 242) X703 hx hZ hown (host := "") (Or.inl (own_w hw 39 rfl)) Via.refl e703 f704 f705 (Or.inr ⟨(own_w hw 40 rfl), rfl, hnm⟩) (own_w hw 2 rfl) (ty := .int) (by decide) rfl rfl (hb hby d1_239) rfl ?_
      intro T706 h706 X706 e706 W706
      have z706 : n0 ≤ h706.size := Nat.le_trans z703 (Keep.of_wr W706).1
      have Fw706 := f704.same W706
      have N706 := Fr.snoc X706 N703 g_a1
      have K706 : Keep h0 h706 [a1] := K703.wr W706 (Or.inl (List.mem_of_getElem? (i := 0) rfl))
      refine own_aloadN (pc' := 243) X706 hx (hb hby d1_242) rfl rfl rfl ?_
      refine own_iload (pc' := 245) X706 hx (hb hby d1_243) rfl rfl ?_
      refine own_iconst (pc' := 246) X706 hx (1 : Int32) (hb hby d1_245) rfl rfl ?_
      refine own_ishl (pc' := 247) X706 hx (hb hby d1_246) rfl ?_
      have f707 := ((((((((((((((((((F_distance1.other W645 (Or.inr (slot_ne (Or.inr (own_w hw 42 rfl)) (Or.inr (own_w hw 16 rfl)) (by decide) (t := .int) (t' := .int) (by decide +kernel) (by decide +kernel)))).other W649 (Or.inr (slot_ne (Or.inr (own_w hw 42 rfl)) (Or.inr (own_w hw 19 rfl)) (by decide) (t := .int) (t' := .int) (by decide +kernel) (by decide +kernel)))).other W652 (Or.inr (slot_ne (Or.inr (own_w hw 42 rfl)) (Or.inr (own_w hw 21 rfl)) (by decide) (t := .int) (t' := .long) (by decide +kernel) (by decide +kernel)))).other W655 (Or.inr (slot_ne (Or.inr (own_w hw 42 rfl)) (Or.inr (own_w hw 23 rfl)) (by decide) (t := .int) (t' := .long) (by decide +kernel) (by decide +kernel)))).other W659 (Or.inr (slot_ne (Or.inr (own_w hw 42 rfl)) (Or.inr (own_w hw 25 rfl)) (by decide) (t := .int) (t' := .int) (by decide +kernel) (by decide +kernel)))).other W664 (Or.inr (slot_ne (Or.inr (own_w hw 42 rfl)) (Or.inr (own_w hw 27 rfl)) (by decide) (t := .int) (t' := .long) (by decide +kernel) (by decide +kernel)))).ext E666).keep K670 (ninS ne_a1_b666 nin0)).keep K673 (ninS ne_a1_b666 nin0)).keep K676 (ninS ne_a1_b666 nin0)).keep K679 (ninS ne_a1_b666 nin0)).keep K682 (ninS ne_a1_b666 nin0)).other W687 (Or.inr (slot_ne (Or.inr (own_w hw 42 rfl)) (Or.inr (own_w hw 30 rfl)) (by decide) (t := .int) (t' := .long) (by decide +kernel) (by decide +kernel)))).other W691 (Or.inr (slot_ne (Or.inr (own_w hw 42 rfl)) (Or.inr (own_w hw 32 rfl)) (by decide) (t := .int) (t' := .long) (by decide +kernel) (by decide +kernel)))).other W695 (Or.inr (slot_ne (Or.inr (own_w hw 42 rfl)) (Or.inr (own_w hw 34 rfl)) (by decide) (t := .int) (t' := .long) (by decide +kernel) (by decide +kernel)))).other W699 (Or.inr (slot_ne (Or.inr (own_w hw 42 rfl)) (Or.inr (own_w hw 36 rfl)) (by decide) (t := .int) (t' := .long) (by decide +kernel) (by decide +kernel)))).other W703 (Or.inr (slot_ne (Or.inr (own_w hw 42 rfl)) (Or.inr (own_w hw 38 rfl)) (by decide) (t := .int) (t' := .long) (by decide +kernel) (by decide +kernel)))).other W706 (Or.inr (slot_ne (Or.inr (own_w hw 42 rfl)) (Or.inr (own_w hw 40 rfl)) (by decide) (t := .int) (t' := .int) (by decide +kernel) (by decide +kernel))))
      have f708 := (f705.wr W706)
      obtain ⟨v710, hv710⟩ : ∃ z : Int32, z = (v2 <<< ((1 : Int32) &&& 31)) := ⟨_, rfl⟩
      rw [← hv710]
      refine own_putF (pc' := 250) X706 hx hZ hown (host := "") (Or.inl (own_w hw 41 rfl)) Via.refl e706 f707 f708 (Or.inr ⟨(own_w hw 42 rfl), rfl, hnm⟩) (own_w hw 2 rfl) (ty := .int) (by decide) rfl rfl (hb hby d1_247) rfl ?_
      intro T709 h709 X709 e709 W709
      have z709 : n0 ≤ h709.size := Nat.le_trans z706 (Keep.of_wr W709).1
      have Fw709 := f707.same W709
      have N709 := Fr.snoc X709 N706 g_a1
      have K709 : Keep h0 h709 [a1] := K706.wr W709 (Or.inl (List.mem_of_getElem? (i := 0) rfl))
      refine own_aloadN (pc' := 251) X709 hx (hb hby d1_250) rfl rfl rfl ?_
      refine own_iload (pc' := 253) X709 hx (hb hby d1_251) rfl rfl ?_
      refine own_iconst (pc' := 254) X709 hx (2 : Int32) (hb hby d1_253) rfl rfl ?_
      refine own_ishl (pc' := 255) X709 hx (hb hby d1_254) rfl ?_
      have f711 := (((((((((((((((((((F_distance2.other W645 (Or.inr (slot_ne (Or.inr (own_w hw 44 rfl)) (Or.inr (own_w hw 16 rfl)) (by decide) (t := .int) (t' := .int) (by decide +kernel) (by decide +kernel)))).other W649 (Or.inr (slot_ne (Or.inr (own_w hw 44 rfl)) (Or.inr (own_w hw 19 rfl)) (by decide) (t := .int) (t' := .int) (by decide +kernel) (by decide +kernel)))).other W652 (Or.inr (slot_ne (Or.inr (own_w hw 44 rfl)) (Or.inr (own_w hw 21 rfl)) (by decide) (t := .int) (t' := .long) (by decide +kernel) (by decide +kernel)))).other W655 (Or.inr (slot_ne (Or.inr (own_w hw 44 rfl)) (Or.inr (own_w hw 23 rfl)) (by decide) (t := .int) (t' := .long) (by decide +kernel) (by decide +kernel)))).other W659 (Or.inr (slot_ne (Or.inr (own_w hw 44 rfl)) (Or.inr (own_w hw 25 rfl)) (by decide) (t := .int) (t' := .int) (by decide +kernel) (by decide +kernel)))).other W664 (Or.inr (slot_ne (Or.inr (own_w hw 44 rfl)) (Or.inr (own_w hw 27 rfl)) (by decide) (t := .int) (t' := .long) (by decide +kernel) (by decide +kernel)))).ext E666).keep K670 (ninS ne_a1_b666 nin0)).keep K673 (ninS ne_a1_b666 nin0)).keep K676 (ninS ne_a1_b666 nin0)).keep K679 (ninS ne_a1_b666 nin0)).keep K682 (ninS ne_a1_b666 nin0)).other W687 (Or.inr (slot_ne (Or.inr (own_w hw 44 rfl)) (Or.inr (own_w hw 30 rfl)) (by decide) (t := .int) (t' := .long) (by decide +kernel) (by decide +kernel)))).other W691 (Or.inr (slot_ne (Or.inr (own_w hw 44 rfl)) (Or.inr (own_w hw 32 rfl)) (by decide) (t := .int) (t' := .long) (by decide +kernel) (by decide +kernel)))).other W695 (Or.inr (slot_ne (Or.inr (own_w hw 44 rfl)) (Or.inr (own_w hw 34 rfl)) (by decide) (t := .int) (t' := .long) (by decide +kernel) (by decide +kernel)))).other W699 (Or.inr (slot_ne (Or.inr (own_w hw 44 rfl)) (Or.inr (own_w hw 36 rfl)) (by decide) (t := .int) (t' := .long) (by decide +kernel) (by decide +kernel)))).other W703 (Or.inr (slot_ne (Or.inr (own_w hw 44 rfl)) (Or.inr (own_w hw 38 rfl)) (by decide) (t := .int) (t' := .long) (by decide +kernel) (by decide +kernel)))).other W706 (Or.inr (slot_ne (Or.inr (own_w hw 44 rfl)) (Or.inr (own_w hw 40 rfl)) (by decide) (t := .int) (t' := .int) (by decide +kernel) (by decide +kernel)))).other W709 (Or.inr (slot_ne (Or.inr (own_w hw 44 rfl)) (Or.inr (own_w hw 42 rfl)) (by decide) (t := .int) (t' := .int) (by decide +kernel) (by decide +kernel))))
      have f712 := (f708.wr W709)
      obtain ⟨v714, hv714⟩ : ∃ z : Int32, z = (v2 <<< ((2 : Int32) &&& 31)) := ⟨_, rfl⟩
      rw [← hv714]
      refine own_putF (pc' := 258) X709 hx hZ hown (host := "") (Or.inl (own_w hw 43 rfl)) Via.refl e709 f711 f712 (Or.inr ⟨(own_w hw 44 rfl), rfl, hnm⟩) (own_w hw 2 rfl) (ty := .int) (by decide) rfl rfl (hb hby d1_255) rfl ?_
      intro T713 h713 X713 e713 W713
      have z713 : n0 ≤ h713.size := Nat.le_trans z709 (Keep.of_wr W713).1
      have Fw713 := f711.same W713
      have N713 := Fr.snoc X713 N709 g_a1
      have K713 : Keep h0 h713 [a1] := K709.wr W713 (Or.inl (List.mem_of_getElem? (i := 0) rfl))
      refine own_aloadN (pc' := 259) X713 hx (hb hby d1_258) rfl rfl rfl ?_
      refine own_iload (pc' := 261) X713 hx (hb hby d1_259) rfl rfl ?_
      refine own_iconst (pc' := 262) X713 hx (3 : Int32) (hb hby d1_261) rfl rfl ?_
      refine own_ishl (pc' := 263) X713 hx (hb hby d1_262) rfl ?_
      have f715 := ((((((((((((((((((((F_distance3.other W645 (Or.inr (slot_ne (Or.inr (own_w hw 46 rfl)) (Or.inr (own_w hw 16 rfl)) (by decide) (t := .int) (t' := .int) (by decide +kernel) (by decide +kernel)))).other W649 (Or.inr (slot_ne (Or.inr (own_w hw 46 rfl)) (Or.inr (own_w hw 19 rfl)) (by decide) (t := .int) (t' := .int) (by decide +kernel) (by decide +kernel)))).other W652 (Or.inr (slot_ne (Or.inr (own_w hw 46 rfl)) (Or.inr (own_w hw 21 rfl)) (by decide) (t := .int) (t' := .long) (by decide +kernel) (by decide +kernel)))).other W655 (Or.inr (slot_ne (Or.inr (own_w hw 46 rfl)) (Or.inr (own_w hw 23 rfl)) (by decide) (t := .int) (t' := .long) (by decide +kernel) (by decide +kernel)))).other W659 (Or.inr (slot_ne (Or.inr (own_w hw 46 rfl)) (Or.inr (own_w hw 25 rfl)) (by decide) (t := .int) (t' := .int) (by decide +kernel) (by decide +kernel)))).other W664 (Or.inr (slot_ne (Or.inr (own_w hw 46 rfl)) (Or.inr (own_w hw 27 rfl)) (by decide) (t := .int) (t' := .long) (by decide +kernel) (by decide +kernel)))).ext E666).keep K670 (ninS ne_a1_b666 nin0)).keep K673 (ninS ne_a1_b666 nin0)).keep K676 (ninS ne_a1_b666 nin0)).keep K679 (ninS ne_a1_b666 nin0)).keep K682 (ninS ne_a1_b666 nin0)).other W687 (Or.inr (slot_ne (Or.inr (own_w hw 46 rfl)) (Or.inr (own_w hw 30 rfl)) (by decide) (t := .int) (t' := .long) (by decide +kernel) (by decide +kernel)))).other W691 (Or.inr (slot_ne (Or.inr (own_w hw 46 rfl)) (Or.inr (own_w hw 32 rfl)) (by decide) (t := .int) (t' := .long) (by decide +kernel) (by decide +kernel)))).other W695 (Or.inr (slot_ne (Or.inr (own_w hw 46 rfl)) (Or.inr (own_w hw 34 rfl)) (by decide) (t := .int) (t' := .long) (by decide +kernel) (by decide +kernel)))).other W699 (Or.inr (slot_ne (Or.inr (own_w hw 46 rfl)) (Or.inr (own_w hw 36 rfl)) (by decide) (t := .int) (t' := .long) (by decide +kernel) (by decide +kernel)))).other W703 (Or.inr (slot_ne (Or.inr (own_w hw 46 rfl)) (Or.inr (own_w hw 38 rfl)) (by decide) (t := .int) (t' := .long) (by decide +kernel) (by decide +kernel)))).other W706 (Or.inr (slot_ne (Or.inr (own_w hw 46 rfl)) (Or.inr (own_w hw 40 rfl)) (by decide) (t := .int) (t' := .int) (by decide +kernel) (by decide +kernel)))).other W709 (Or.inr (slot_ne (Or.inr (own_w hw 46 rfl)) (Or.inr (own_w hw 42 rfl)) (by decide) (t := .int) (t' := .int) (by decide +kernel) (by decide +kernel)))).other W713 (Or.inr (slot_ne (Or.inr (own_w hw 46 rfl)) (Or.inr (own_w hw 44 rfl)) (by decide) (t := .int) (t' := .int) (by decide +kernel) (by decide +kernel))))
      have f716 := (f712.wr W713)
      obtain ⟨v718, hv718⟩ : ∃ z : Int32, z = (v2 <<< ((3 : Int32) &&& 31)) := ⟨_, rfl⟩
      rw [← hv718]
      refine own_putF (pc' := 266) X713 hx hZ hown (host := "") (Or.inl (own_w hw 45 rfl)) Via.refl e713 f715 f716 (Or.inr ⟨(own_w hw 46 rfl), rfl, hnm⟩) (own_w hw 2 rfl) (ty := .int) (by decide) rfl rfl (hb hby d1_263) rfl ?_
      intro T717 h717 X717 e717 W717
      have z717 : n0 ≤ h717.size := Nat.le_trans z713 (Keep.of_wr W717).1
      have Fw717 := f715.same W717
      have N717 := Fr.snoc X717 N713 g_a1
      have K717 : Keep h0 h717 [a1] := K713.wr W717 (Or.inl (List.mem_of_getElem? (i := 0) rfl))
      refine own_aloadN (pc' := 267) X717 hx (hb hby d1_266) rfl rfl rfl ?_
      refine own_iload (pc' := 269) X717 hx (hb hby d1_267) rfl rfl ?_
      refine own_iconst (pc' := 270) X717 hx (4 : Int32) (hb hby d1_269) rfl rfl ?_
      refine own_ishl (pc' := 271) X717 hx (hb hby d1_270) rfl ?_
      have f719 := (((((((((((((((((((((F_distance4.other W645 (Or.inr (slot_ne (Or.inr (own_w hw 48 rfl)) (Or.inr (own_w hw 16 rfl)) (by decide) (t := .int) (t' := .int) (by decide +kernel) (by decide +kernel)))).other W649 (Or.inr (slot_ne (Or.inr (own_w hw 48 rfl)) (Or.inr (own_w hw 19 rfl)) (by decide) (t := .int) (t' := .int) (by decide +kernel) (by decide +kernel)))).other W652 (Or.inr (slot_ne (Or.inr (own_w hw 48 rfl)) (Or.inr (own_w hw 21 rfl)) (by decide) (t := .int) (t' := .long) (by decide +kernel) (by decide +kernel)))).other W655 (Or.inr (slot_ne (Or.inr (own_w hw 48 rfl)) (Or.inr (own_w hw 23 rfl)) (by decide) (t := .int) (t' := .long) (by decide +kernel) (by decide +kernel)))).other W659 (Or.inr (slot_ne (Or.inr (own_w hw 48 rfl)) (Or.inr (own_w hw 25 rfl)) (by decide) (t := .int) (t' := .int) (by decide +kernel) (by decide +kernel)))).other W664 (Or.inr (slot_ne (Or.inr (own_w hw 48 rfl)) (Or.inr (own_w hw 27 rfl)) (by decide) (t := .int) (t' := .long) (by decide +kernel) (by decide +kernel)))).ext E666).keep K670 (ninS ne_a1_b666 nin0)).keep K673 (ninS ne_a1_b666 nin0)).keep K676 (ninS ne_a1_b666 nin0)).keep K679 (ninS ne_a1_b666 nin0)).keep K682 (ninS ne_a1_b666 nin0)).other W687 (Or.inr (slot_ne (Or.inr (own_w hw 48 rfl)) (Or.inr (own_w hw 30 rfl)) (by decide) (t := .int) (t' := .long) (by decide +kernel) (by decide +kernel)))).other W691 (Or.inr (slot_ne (Or.inr (own_w hw 48 rfl)) (Or.inr (own_w hw 32 rfl)) (by decide) (t := .int) (t' := .long) (by decide +kernel) (by decide +kernel)))).other W695 (Or.inr (slot_ne (Or.inr (own_w hw 48 rfl)) (Or.inr (own_w hw 34 rfl)) (by decide) (t := .int) (t' := .long) (by decide +kernel) (by decide +kernel)))).other W699 (Or.inr (slot_ne (Or.inr (own_w hw 48 rfl)) (Or.inr (own_w hw 36 rfl)) (by decide) (t := .int) (t' := .long) (by decide +kernel) (by decide +kernel)))).other W703 (Or.inr (slot_ne (Or.inr (own_w hw 48 rfl)) (Or.inr (own_w hw 38 rfl)) (by decide) (t := .int) (t' := .long) (by decide +kernel) (by decide +kernel)))).other W706 (Or.inr (slot_ne (Or.inr (own_w hw 48 rfl)) (Or.inr (own_w hw 40 rfl)) (by decide) (t := .int) (t' := .int) (by decide +kernel) (by decide +kernel)))).other W709 (Or.inr (slot_ne (Or.inr (own_w hw 48 rfl)) (Or.inr (own_w hw 42 rfl)) (by decide) (t := .int) (t' := .int) (by decide +kernel) (by decide +kernel)))).other W713 (Or.inr (slot_ne (Or.inr (own_w hw 48 rfl)) (Or.inr (own_w hw 44 rfl)) (by decide) (t := .int) (t' := .int) (by decide +kernel) (by decide +kernel)))).other W717 (Or.inr (slot_ne (Or.inr (own_w hw 48 rfl)) (Or.inr (own_w hw 46 rfl)) (by decide) (t := .int) (t' := .int) (by decide +kernel) (by decide +kernel))))
      have f720 := (f716.wr W717)
      obtain ⟨v722, hv722⟩ : ∃ z : Int32, z = (v2 <<< ((4 : Int32) &&& 31)) := ⟨_, rfl⟩
      rw [← hv722]
      refine own_putF (pc' := 274) X717 hx hZ hown (host := "") (Or.inl (own_w hw 47 rfl)) Via.refl e717 f719 f720 (Or.inr ⟨(own_w hw 48 rfl), rfl, hnm⟩) (own_w hw 2 rfl) (ty := .int) (by decide) rfl rfl (hb hby d1_271) rfl ?_
      intro T721 h721 X721 e721 W721
      have z721 : n0 ≤ h721.size := Nat.le_trans z717 (Keep.of_wr W721).1
      have Fw721 := f719.same W721
      have N721 := Fr.snoc X721 N717 g_a1
      have K721 : Keep h0 h721 [a1] := K717.wr W721 (Or.inl (List.mem_of_getElem? (i := 0) rfl))
      refine own_aloadN (pc' := 275) X721 hx (hb hby d1_274) rfl rfl rfl ?_
      refine own_aloadN (pc' := 276) X721 hx (hb hby d1_275) rfl rfl rfl ?_
      have f723 := (((((((((Fw687.other W691 (Or.inr (slot_ne (Or.inr (own_w hw 30 rfl)) (Or.inr (own_w hw 32 rfl)) (by decide) (t := .long) (t' := .long) (by decide +kernel) (by decide +kernel)))).other W695 (Or.inr (slot_ne (Or.inr (own_w hw 30 rfl)) (Or.inr (own_w hw 34 rfl)) (by decide) (t := .long) (t' := .long) (by decide +kernel) (by decide +kernel)))).other W699 (Or.inr (slot_ne (Or.inr (own_w hw 30 rfl)) (Or.inr (own_w hw 36 rfl)) (by decide) (t := .long) (t' := .long) (by decide +kernel) (by decide +kernel)))).other W703 (Or.inr (slot_ne (Or.inr (own_w hw 30 rfl)) (Or.inr (own_w hw 38 rfl)) (by decide) (t := .long) (t' := .long) (by decide +kernel) (by decide +kernel)))).other W706 (Or.inr (slot_ne (Or.inr (own_w hw 30 rfl)) (Or.inr (own_w hw 40 rfl)) (by decide) (t := .long) (t' := .int) (by decide +kernel) (by decide +kernel)))).other W709 (Or.inr (slot_ne (Or.inr (own_w hw 30 rfl)) (Or.inr (own_w hw 42 rfl)) (by decide) (t := .long) (t' := .int) (by decide +kernel) (by decide +kernel)))).other W713 (Or.inr (slot_ne (Or.inr (own_w hw 30 rfl)) (Or.inr (own_w hw 44 rfl)) (by decide) (t := .long) (t' := .int) (by decide +kernel) (by decide +kernel)))).other W717 (Or.inr (slot_ne (Or.inr (own_w hw 30 rfl)) (Or.inr (own_w hw 46 rfl)) (by decide) (t := .long) (t' := .int) (by decide +kernel) (by decide +kernel)))).other W721 (Or.inr (slot_ne (Or.inr (own_w hw 30 rfl)) (Or.inr (own_w hw 48 rfl)) (by decide) (t := .long) (t' := .int) (by decide +kernel) (by decide +kernel))))
      refine own_getF (pc' := 279) X721 hx hZ hown (host := "") (Or.inl (own_w hw 29 rfl)) Via.refl e721 f723 (hb hby d1_276) rfl ?_
      intro T724 X724 e724
      refine own_aloadN (pc' := 280) X724 hx (hb hby d1_279) rfl rfl rfl ?_
      have f725 := ((((Fw706.other W709 (Or.inr (slot_ne (Or.inr (own_w hw 40 rfl)) (Or.inr (own_w hw 42 rfl)) (by decide) (t := .int) (t' := .int) (by decide +kernel) (by decide +kernel)))).other W713 (Or.inr (slot_ne (Or.inr (own_w hw 40 rfl)) (Or.inr (own_w hw 44 rfl)) (by decide) (t := .int) (t' := .int) (by decide +kernel) (by decide +kernel)))).other W717 (Or.inr (slot_ne (Or.inr (own_w hw 40 rfl)) (Or.inr (own_w hw 46 rfl)) (by decide) (t := .int) (t' := .int) (by decide +kernel) (by decide +kernel)))).other W721 (Or.inr (slot_ne (Or.inr (own_w hw 40 rfl)) (Or.inr (own_w hw 48 rfl)) (by decide) (t := .int) (t' := .int) (by decide +kernel) (by decide +kernel))))
      refine own_getF (pc' := 283) X724 hx hZ hown (host := "") (Or.inl (own_w hw 39 rfl)) Via.refl e724 f725 (hb hby d1_280) rfl ?_
      intro T726 X726 e726
      refine own_lushr (pc' := 284) X726 hx (hb hby d1_283) rfl ?_
      have f727 := ((((((((((((((((((((((F_moved0.other W645 (Or.inr (slot_ne (Or.inr (own_w hw 50 rfl)) (Or.inr (own_w hw 16 rfl)) (by decide) (t := .long) (t' := .int) (by decide +kernel) (by decide +kernel)))).other W649 (Or.inr (slot_ne (Or.inr (own_w hw 50 rfl)) (Or.inr (own_w hw 19 rfl)) (by decide) (t := .long) (t' := .int) (by decide +kernel) (by decide +kernel)))).other W652 (Or.inr (slot_ne (Or.inr (own_w hw 50 rfl)) (Or.inr (own_w hw 21 rfl)) (by decide) (t := .long) (t' := .long) (by decide +kernel) (by decide +kernel)))).other W655 (Or.inr (slot_ne (Or.inr (own_w hw 50 rfl)) (Or.inr (own_w hw 23 rfl)) (by decide) (t := .long) (t' := .long) (by decide +kernel) (by decide +kernel)))).other W659 (Or.inr (slot_ne (Or.inr (own_w hw 50 rfl)) (Or.inr (own_w hw 25 rfl)) (by decide) (t := .long) (t' := .int) (by decide +kernel) (by decide +kernel)))).other W664 (Or.inr (slot_ne (Or.inr (own_w hw 50 rfl)) (Or.inr (own_w hw 27 rfl)) (by decide) (t := .long) (t' := .long) (by decide +kernel) (by decide +kernel)))).ext E666).keep K670 (ninS ne_a1_b666 nin0)).keep K673 (ninS ne_a1_b666 nin0)).keep K676 (ninS ne_a1_b666 nin0)).keep K679 (ninS ne_a1_b666 nin0)).keep K682 (ninS ne_a1_b666 nin0)).other W687 (Or.inr (slot_ne (Or.inr (own_w hw 50 rfl)) (Or.inr (own_w hw 30 rfl)) (by decide) (t := .long) (t' := .long) (by decide +kernel) (by decide +kernel)))).other W691 (Or.inr (slot_ne (Or.inr (own_w hw 50 rfl)) (Or.inr (own_w hw 32 rfl)) (by decide) (t := .long) (t' := .long) (by decide +kernel) (by decide +kernel)))).other W695 (Or.inr (slot_ne (Or.inr (own_w hw 50 rfl)) (Or.inr (own_w hw 34 rfl)) (by decide) (t := .long) (t' := .long) (by decide +kernel) (by decide +kernel)))).other W699 (Or.inr (slot_ne (Or.inr (own_w hw 50 rfl)) (Or.inr (own_w hw 36 rfl)) (by decide) (t := .long) (t' := .long) (by decide +kernel) (by decide +kernel)))).other W703 (Or.inr (slot_ne (Or.inr (own_w hw 50 rfl)) (Or.inr (own_w hw 38 rfl)) (by decide) (t := .long) (t' := .long) (by decide +kernel) (by decide +kernel)))).other W706 (Or.inr (slot_ne (Or.inr (own_w hw 50 rfl)) (Or.inr (own_w hw 40 rfl)) (by decide) (t := .long) (t' := .int) (by decide +kernel) (by decide +kernel)))).other W709 (Or.inr (slot_ne (Or.inr (own_w hw 50 rfl)) (Or.inr (own_w hw 42 rfl)) (by decide) (t := .long) (t' := .int) (by decide +kernel) (by decide +kernel)))).other W713 (Or.inr (slot_ne (Or.inr (own_w hw 50 rfl)) (Or.inr (own_w hw 44 rfl)) (by decide) (t := .long) (t' := .int) (by decide +kernel) (by decide +kernel)))).other W717 (Or.inr (slot_ne (Or.inr (own_w hw 50 rfl)) (Or.inr (own_w hw 46 rfl)) (by decide) (t := .long) (t' := .int) (by decide +kernel) (by decide +kernel)))).other W721 (Or.inr (slot_ne (Or.inr (own_w hw 50 rfl)) (Or.inr (own_w hw 48 rfl)) (by decide) (t := .long) (t' := .int) (by decide +kernel) (by decide +kernel))))
      have f728 := (f720.wr W721)
      obtain ⟨v730, hv730⟩ : ∃ z : Int64, z = ((mv670.toUInt64 >>> (v2 &&& 0x3f).toInt64.toUInt64).toInt64) := ⟨_, rfl⟩
      rw [← hv730]
      refine own_putF (pc' := 287) X726 hx hZ hown (host := "") (Or.inl (own_w hw 49 rfl)) Via.refl e726 f727 f728 (Or.inr ⟨(own_w hw 50 rfl), rfl, hnm⟩) (own_w hw 2 rfl) (ty := .long) (by decide) rfl rfl (hb hby d1_284) rfl ?_
      intro T729 h729 X729 e729 W729
      have z729 : n0 ≤ h729.size := Nat.le_trans z721 (Keep.of_wr W729).1
      have Fw729 := f727.same W729
      have N729 := Fr.snoc X729 N721 g_a1
      have K729 : Keep h0 h729 [a1] := K721.wr W729 (Or.inl (List.mem_of_getElem? (i := 0) rfl))
      refine own_aloadN (pc' := 288) X729 hx (hb hby d1_287) rfl rfl rfl ?_
      refine own_aloadN (pc' := 289) X729 hx (hb hby d1_288) rfl rfl rfl ?_
      have f731 := (((((((((Fw691.other W695 (Or.inr (slot_ne (Or.inr (own_w hw 32 rfl)) (Or.inr (own_w hw 34 rfl)) (by decide) (t := .long) (t' := .long) (by decide +kernel) (by decide +kernel)))).other W699 (Or.inr (slot_ne (Or.inr (own_w hw 32 rfl)) (Or.inr (own_w hw 36 rfl)) (by decide) (t := .long) (t' := .long) (by decide +kernel) (by decide +kernel)))).other W703 (Or.inr (slot_ne (Or.inr (own_w hw 32 rfl)) (Or.inr (own_w hw 38 rfl)) (by decide) (t := .long) (t' := .long) (by decide +kernel) (by decide +kernel)))).other W706 (Or.inr (slot_ne (Or.inr (own_w hw 32 rfl)) (Or.inr (own_w hw 40 rfl)) (by decide) (t := .long) (t' := .int) (by decide +kernel) (by decide +kernel)))).other W709 (Or.inr (slot_ne (Or.inr (own_w hw 32 rfl)) (Or.inr (own_w hw 42 rfl)) (by decide) (t := .long) (t' := .int) (by decide +kernel) (by decide +kernel)))).other W713 (Or.inr (slot_ne (Or.inr (own_w hw 32 rfl)) (Or.inr (own_w hw 44 rfl)) (by decide) (t := .long) (t' := .int) (by decide +kernel) (by decide +kernel)))).other W717 (Or.inr (slot_ne (Or.inr (own_w hw 32 rfl)) (Or.inr (own_w hw 46 rfl)) (by decide) (t := .long) (t' := .int) (by decide +kernel) (by decide +kernel)))).other W721 (Or.inr (slot_ne (Or.inr (own_w hw 32 rfl)) (Or.inr (own_w hw 48 rfl)) (by decide) (t := .long) (t' := .int) (by decide +kernel) (by decide +kernel)))).other W729 (Or.inr (slot_ne (Or.inr (own_w hw 32 rfl)) (Or.inr (own_w hw 50 rfl)) (by decide) (t := .long) (t' := .long) (by decide +kernel) (by decide +kernel))))
      refine own_getF (pc' := 292) X729 hx hZ hown (host := "") (Or.inl (own_w hw 31 rfl)) Via.refl e729 f731 (hb hby d1_289) rfl ?_
      intro T732 X732 e732
      refine own_aloadN (pc' := 293) X732 hx (hb hby d1_292) rfl rfl rfl ?_
      have f733 := ((((Fw709.other W713 (Or.inr (slot_ne (Or.inr (own_w hw 42 rfl)) (Or.inr (own_w hw 44 rfl)) (by decide) (t := .int) (t' := .int) (by decide +kernel) (by decide +kernel)))).other W717 (Or.inr (slot_ne (Or.inr (own_w hw 42 rfl)) (Or.inr (own_w hw 46 rfl)) (by decide) (t := .int) (t' := .int) (by decide +kernel) (by decide +kernel)))).other W721 (Or.inr (slot_ne (Or.inr (own_w hw 42 rfl)) (Or.inr (own_w hw 48 rfl)) (by decide) (t := .int) (t' := .int) (by decide +kernel) (by decide +kernel)))).other W729 (Or.inr (slot_ne (Or.inr (own_w hw 42 rfl)) (Or.inr (own_w hw 50 rfl)) (by decide) (t := .int) (t' := .long) (by decide +kernel) (by decide +kernel))))
      refine own_getF (pc' := 296) X732 hx hZ hown (host := "") (Or.inl (own_w hw 41 rfl)) Via.refl e732 f733 (hb hby d1_293) rfl ?_
      intro T734 X734 e734
      refine own_lushr (pc' := 297) X734 hx (hb hby d1_296) rfl ?_
      have f735 := (((((((((((((((((((((((F_moved1.other W645 (Or.inr (slot_ne (Or.inr (own_w hw 52 rfl)) (Or.inr (own_w hw 16 rfl)) (by decide) (t := .long) (t' := .int) (by decide +kernel) (by decide +kernel)))).other W649 (Or.inr (slot_ne (Or.inr (own_w hw 52 rfl)) (Or.inr (own_w hw 19 rfl)) (by decide) (t := .long) (t' := .int) (by decide +kernel) (by decide +kernel)))).other W652 (Or.inr (slot_ne (Or.inr (own_w hw 52 rfl)) (Or.inr (own_w hw 21 rfl)) (by decide) (t := .long) (t' := .long) (by decide +kernel) (by decide +kernel)))).other W655 (Or.inr (slot_ne (Or.inr (own_w hw 52 rfl)) (Or.inr (own_w hw 23 rfl)) (by decide) (t := .long) (t' := .long) (by decide +kernel) (by decide +kernel)))).other W659 (Or.inr (slot_ne (Or.inr (own_w hw 52 rfl)) (Or.inr (own_w hw 25 rfl)) (by decide) (t := .long) (t' := .int) (by decide +kernel) (by decide +kernel)))).other W664 (Or.inr (slot_ne (Or.inr (own_w hw 52 rfl)) (Or.inr (own_w hw 27 rfl)) (by decide) (t := .long) (t' := .long) (by decide +kernel) (by decide +kernel)))).ext E666).keep K670 (ninS ne_a1_b666 nin0)).keep K673 (ninS ne_a1_b666 nin0)).keep K676 (ninS ne_a1_b666 nin0)).keep K679 (ninS ne_a1_b666 nin0)).keep K682 (ninS ne_a1_b666 nin0)).other W687 (Or.inr (slot_ne (Or.inr (own_w hw 52 rfl)) (Or.inr (own_w hw 30 rfl)) (by decide) (t := .long) (t' := .long) (by decide +kernel) (by decide +kernel)))).other W691 (Or.inr (slot_ne (Or.inr (own_w hw 52 rfl)) (Or.inr (own_w hw 32 rfl)) (by decide) (t := .long) (t' := .long) (by decide +kernel) (by decide +kernel)))).other W695 (Or.inr (slot_ne (Or.inr (own_w hw 52 rfl)) (Or.inr (own_w hw 34 rfl)) (by decide) (t := .long) (t' := .long) (by decide +kernel) (by decide +kernel)))).other W699 (Or.inr (slot_ne (Or.inr (own_w hw 52 rfl)) (Or.inr (own_w hw 36 rfl)) (by decide) (t := .long) (t' := .long) (by decide +kernel) (by decide +kernel)))).other W703 (Or.inr (slot_ne (Or.inr (own_w hw 52 rfl)) (Or.inr (own_w hw 38 rfl)) (by decide) (t := .long) (t' := .long) (by decide +kernel) (by decide +kernel)))).other W706 (Or.inr (slot_ne (Or.inr (own_w hw 52 rfl)) (Or.inr (own_w hw 40 rfl)) (by decide) (t := .long) (t' := .int) (by decide +kernel) (by decide +kernel)))).other W709 (Or.inr (slot_ne (Or.inr (own_w hw 52 rfl)) (Or.inr (own_w hw 42 rfl)) (by decide) (t := .long) (t' := .int) (by decide +kernel) (by decide +kernel)))).other W713 (Or.inr (slot_ne (Or.inr (own_w hw 52 rfl)) (Or.inr (own_w hw 44 rfl)) (by decide) (t := .long) (t' := .int) (by decide +kernel) (by decide +kernel)))).other W717 (Or.inr (slot_ne (Or.inr (own_w hw 52 rfl)) (Or.inr (own_w hw 46 rfl)) (by decide) (t := .long) (t' := .int) (by decide +kernel) (by decide +kernel)))).other W721 (Or.inr (slot_ne (Or.inr (own_w hw 52 rfl)) (Or.inr (own_w hw 48 rfl)) (by decide) (t := .long) (t' := .int) (by decide +kernel) (by decide +kernel)))).other W729 (Or.inr (slot_ne (Or.inr (own_w hw 52 rfl)) (Or.inr (own_w hw 50 rfl)) (by decide) (t := .long) (t' := .long) (by decide +kernel) (by decide +kernel))))
      have f736 := (f728.wr W729)
      obtain ⟨v738, hv738⟩ : ∃ z : Int64, z = ((mv673.toUInt64 >>> (v710 &&& 0x3f).toInt64.toUInt64).toInt64) := ⟨_, rfl⟩
      rw [← hv738]
      refine own_putF (pc' := 300) X734 hx hZ hown (host := "") (Or.inl (own_w hw 51 rfl)) Via.refl e734 f735 f736 (Or.inr ⟨(own_w hw 52 rfl), rfl, hnm⟩) (own_w hw 2 rfl) (ty := .long) (by decide) rfl rfl (hb hby d1_297) rfl ?_
      intro T737 h737 X737 e737 W737
      have z737 : n0 ≤ h737.size := Nat.le_trans z729 (Keep.of_wr W737).1
      have Fw737 := f735.same W737
      have N737 := Fr.snoc X737 N729 g_a1
      have K737 : Keep h0 h737 [a1] := K729.wr W737 (Or.inl (List.mem_of_getElem? (i := 0) rfl))
      refine own_aloadN (pc' := 301) X737 hx (hb hby d1_300) rfl rfl rfl ?_
      refine own_aloadN (pc' := 302) X737 hx (hb hby d1_301) rfl rfl rfl ?_
      have f739 := (((((((((Fw695.other W699 (Or.inr (slot_ne (Or.inr (own_w hw 34 rfl)) (Or.inr (own_w hw 36 rfl)) (by decide) (t := .long) (t' := .long) (by decide +kernel) (by decide +kernel)))).other W703 (Or.inr (slot_ne (Or.inr (own_w hw 34 rfl)) (Or.inr (own_w hw 38 rfl)) (by decide) (t := .long) (t' := .long) (by decide +kernel) (by decide +kernel)))).other W706 (Or.inr (slot_ne (Or.inr (own_w hw 34 rfl)) (Or.inr (own_w hw 40 rfl)) (by decide) (t := .long) (t' := .int) (by decide +kernel) (by decide +kernel)))).other W709 (Or.inr (slot_ne (Or.inr (own_w hw 34 rfl)) (Or.inr (own_w hw 42 rfl)) (by decide) (t := .long) (t' := .int) (by decide +kernel) (by decide +kernel)))).other W713 (Or.inr (slot_ne (Or.inr (own_w hw 34 rfl)) (Or.inr (own_w hw 44 rfl)) (by decide) (t := .long) (t' := .int) (by decide +kernel) (by decide +kernel)))).other W717 (Or.inr (slot_ne (Or.inr (own_w hw 34 rfl)) (Or.inr (own_w hw 46 rfl)) (by decide) (t := .long) (t' := .int) (by decide +kernel) (by decide +kernel)))).other W721 (Or.inr (slot_ne (Or.inr (own_w hw 34 rfl)) (Or.inr (own_w hw 48 rfl)) (by decide) (t := .long) (t' := .int) (by decide +kernel) (by decide +kernel)))).other W729 (Or.inr (slot_ne (Or.inr (own_w hw 34 rfl)) (Or.inr (own_w hw 50 rfl)) (by decide) (t := .long) (t' := .long) (by decide +kernel) (by decide +kernel)))).other W737 (Or.inr (slot_ne (Or.inr (own_w hw 34 rfl)) (Or.inr (own_w hw 52 rfl)) (by decide) (t := .long) (t' := .long) (by decide +kernel) (by decide +kernel))))
      refine own_getF (pc' := 305) X737 hx hZ hown (host := "") (Or.inl (own_w hw 33 rfl)) Via.refl e737 f739 (hb hby d1_302) rfl ?_
      intro T740 X740 e740
      refine own_aloadN (pc' := 306) X740 hx (hb hby d1_305) rfl rfl rfl ?_
      have f741 := ((((Fw713.other W717 (Or.inr (slot_ne (Or.inr (own_w hw 44 rfl)) (Or.inr (own_w hw 46 rfl)) (by decide) (t := .int) (t' := .int) (by decide +kernel) (by decide +kernel)))).other W721 (Or.inr (slot_ne (Or.inr (own_w hw 44 rfl)) (Or.inr (own_w hw 48 rfl)) (by decide) (t := .int) (t' := .int) (by decide +kernel) (by decide +kernel)))).other W729 (Or.inr (slot_ne (Or.inr (own_w hw 44 rfl)) (Or.inr (own_w hw 50 rfl)) (by decide) (t := .int) (t' := .long) (by decide +kernel) (by decide +kernel)))).other W737 (Or.inr (slot_ne (Or.inr (own_w hw 44 rfl)) (Or.inr (own_w hw 52 rfl)) (by decide) (t := .int) (t' := .long) (by decide +kernel) (by decide +kernel))))
      refine own_getF (pc' := 309) X740 hx hZ hown (host := "") (Or.inl (own_w hw 43 rfl)) Via.refl e740 f741 (hb hby d1_306) rfl ?_
      intro T742 X742 e742
      refine own_lushr (pc' := 310) X742 hx (hb hby d1_309) rfl ?_
      have f743 := ((((((((((((((((((((((((F_moved2.other W645 (Or.inr (slot_ne (Or.inr (own_w hw 54 rfl)) (Or.inr (own_w hw 16 rfl)) (by decide) (t := .long) (t' := .int) (by decide +kernel) (by decide +kernel)))).other W649 (Or.inr (slot_ne (Or.inr (own_w hw 54 rfl)) (Or.inr (own_w hw 19 rfl)) (by decide) (t := .long) (t' := .int) (by decide +kernel) (by decide +kernel)))).other W652 (Or.inr (slot_ne (Or.inr (own_w hw 54 rfl)) (Or.inr (own_w hw 21 rfl)) (by decide) (t := .long) (t' := .long) (by decide +kernel) (by decide +kernel)))).other W655 (Or.inr (slot_ne (Or.inr (own_w hw 54 rfl)) (Or.inr (own_w hw 23 rfl)) (by decide) (t := .long) (t' := .long) (by decide +kernel) (by decide +kernel)))).other W659 (Or.inr (slot_ne (Or.inr (own_w hw 54 rfl)) (Or.inr (own_w hw 25 rfl)) (by decide) (t := .long) (t' := .int) (by decide +kernel) (by decide +kernel)))).other W664 (Or.inr (slot_ne (Or.inr (own_w hw 54 rfl)) (Or.inr (own_w hw 27 rfl)) (by decide) (t := .long) (t' := .long) (by decide +kernel) (by decide +kernel)))).ext E666).keep K670 (ninS ne_a1_b666 nin0)).keep K673 (ninS ne_a1_b666 nin0)).keep K676 (ninS ne_a1_b666 nin0)).keep K679 (ninS ne_a1_b666 nin0)).keep K682 (ninS ne_a1_b666 nin0)).other W687 (Or.inr (slot_ne (Or.inr (own_w hw 54 rfl)) (Or.inr (own_w hw 30 rfl)) (by decide) (t := .long) (t' := .long) (by decide +kernel) (by decide +kernel)))).other W691 (Or.inr (slot_ne (Or.inr (own_w hw 54 rfl)) (Or.inr (own_w hw 32 rfl)) (by decide) (t := .long) (t' := .long) (by decide +kernel) (by decide +kernel)))).other W695 (Or.inr (slot_ne (Or.inr (own_w hw 54 rfl)) (Or.inr (own_w hw 34 rfl)) (by decide) (t := .long) (t' := .long) (by decide +kernel) (by decide +kernel)))).other W699 (Or.inr (slot_ne (Or.inr (own_w hw 54 rfl)) (Or.inr (own_w hw 36 rfl)) (by decide) (t := .long) (t' := .long) (by decide +kernel) (by decide +kernel)))).other W703 (Or.inr (slot_ne (Or.inr (own_w hw 54 rfl)) (Or.inr (own_w hw 38 rfl)) (by decide) (t := .long) (t' := .long) (by decide +kernel) (by decide +kernel)))).other W706 (Or.inr (slot_ne (Or.inr (own_w hw 54 rfl)) (Or.inr (own_w hw 40 rfl)) (by decide) (t := .long) (t' := .int) (by decide +kernel) (by decide +kernel)))).other W709 (Or.inr (slot_ne (Or.inr (own_w hw 54 rfl)) (Or.inr (own_w hw 42 rfl)) (by decide) (t := .long) (t' := .int) (by decide +kernel) (by decide +kernel)))).other W713 (Or.inr (slot_ne (Or.inr (own_w hw 54 rfl)) (Or.inr (own_w hw 44 rfl)) (by decide) (t := .long) (t' := .int) (by decide +kernel) (by decide +kernel)))).other W717 (Or.inr (slot_ne (Or.inr (own_w hw 54 rfl)) (Or.inr (own_w hw 46 rfl)) (by decide) (t := .long) (t' := .int) (by decide +kernel) (by decide +kernel)))).other W721 (Or.inr (slot_ne (Or.inr (own_w hw 54 rfl)) (Or.inr (own_w hw 48 rfl)) (by decide) (t := .long) (t' := .int) (by decide +kernel) (by decide +kernel)))).other W729 (Or.inr (slot_ne (Or.inr (own_w hw 54 rfl)) (Or.inr (own_w hw 50 rfl)) (by decide) (t := .long) (t' := .long) (by decide +kernel) (by decide +kernel)))).other W737 (Or.inr (slot_ne (Or.inr (own_w hw 54 rfl)) (Or.inr (own_w hw 52 rfl)) (by decide) (t := .long) (t' := .long) (by decide +kernel) (by decide +kernel))))
      have f744 := (f736.wr W737)
      obtain ⟨v746, hv746⟩ : ∃ z : Int64, z = ((mv676.toUInt64 >>> (v714 &&& 0x3f).toInt64.toUInt64).toInt64) := ⟨_, rfl⟩
      rw [← hv746]
      refine own_putF (pc' := 313) X742 hx hZ hown (host := "") (Or.inl (own_w hw 53 rfl)) Via.refl e742 f743 f744 (Or.inr ⟨(own_w hw 54 rfl), rfl, hnm⟩) (own_w hw 2 rfl) (ty := .long) (by decide) rfl rfl (hb hby d1_310) rfl ?_
      intro T745 h745 X745 e745 W745
      have z745 : n0 ≤ h745.size := Nat.le_trans z737 (Keep.of_wr W745).1
      have Fw745 := f743.same W745
      have N745 := Fr.snoc X745 N737 g_a1
      have K745 : Keep h0 h745 [a1] := K737.wr W745 (Or.inl (List.mem_of_getElem? (i := 0) rfl))
      refine own_aloadN (pc' := 314) X745 hx (hb hby d1_313) rfl rfl rfl ?_
      refine own_aloadN (pc' := 315) X745 hx (hb hby d1_314) rfl rfl rfl ?_
      have f747 := (((((((((Fw699.other W703 (Or.inr (slot_ne (Or.inr (own_w hw 36 rfl)) (Or.inr (own_w hw 38 rfl)) (by decide) (t := .long) (t' := .long) (by decide +kernel) (by decide +kernel)))).other W706 (Or.inr (slot_ne (Or.inr (own_w hw 36 rfl)) (Or.inr (own_w hw 40 rfl)) (by decide) (t := .long) (t' := .int) (by decide +kernel) (by decide +kernel)))).other W709 (Or.inr (slot_ne (Or.inr (own_w hw 36 rfl)) (Or.inr (own_w hw 42 rfl)) (by decide) (t := .long) (t' := .int) (by decide +kernel) (by decide +kernel)))).other W713 (Or.inr (slot_ne (Or.inr (own_w hw 36 rfl)) (Or.inr (own_w hw 44 rfl)) (by decide) (t := .long) (t' := .int) (by decide +kernel) (by decide +kernel)))).other W717 (Or.inr (slot_ne (Or.inr (own_w hw 36 rfl)) (Or.inr (own_w hw 46 rfl)) (by decide) (t := .long) (t' := .int) (by decide +kernel) (by decide +kernel)))).other W721 (Or.inr (slot_ne (Or.inr (own_w hw 36 rfl)) (Or.inr (own_w hw 48 rfl)) (by decide) (t := .long) (t' := .int) (by decide +kernel) (by decide +kernel)))).other W729 (Or.inr (slot_ne (Or.inr (own_w hw 36 rfl)) (Or.inr (own_w hw 50 rfl)) (by decide) (t := .long) (t' := .long) (by decide +kernel) (by decide +kernel)))).other W737 (Or.inr (slot_ne (Or.inr (own_w hw 36 rfl)) (Or.inr (own_w hw 52 rfl)) (by decide) (t := .long) (t' := .long) (by decide +kernel) (by decide +kernel)))).other W745 (Or.inr (slot_ne (Or.inr (own_w hw 36 rfl)) (Or.inr (own_w hw 54 rfl)) (by decide) (t := .long) (t' := .long) (by decide +kernel) (by decide +kernel))))
      refine own_getF (pc' := 318) X745 hx hZ hown (host := "") (Or.inl (own_w hw 35 rfl)) Via.refl e745 f747 (hb hby d1_315) rfl ?_
      intro T748 X748 e748
      refine own_aloadN (pc' := 319) X748 hx (hb hby d1_318) rfl rfl rfl ?_
      have f749 := ((((Fw717.other W721 (Or.inr (slot_ne (Or.inr (own_w hw 46 rfl)) (Or.inr (own_w hw 48 rfl)) (by decide) (t := .int) (t' := .int) (by decide +kernel) (by decide +kernel)))).other W729 (Or.inr (slot_ne (Or.inr (own_w hw 46 rfl)) (Or.inr (own_w hw 50 rfl)) (by decide) (t := .int) (t' := .long) (by decide +kernel) (by decide +kernel)))).other W737 (Or.inr (slot_ne (Or.inr (own_w hw 46 rfl)) (Or.inr (own_w hw 52 rfl)) (by decide) (t := .int) (t' := .long) (by decide +kernel) (by decide +kernel)))).other W745 (Or.inr (slot_ne (Or.inr (own_w hw 46 rfl)) (Or.inr (own_w hw 54 rfl)) (by decide) (t := .int) (t' := .long) (by decide +kernel) (by decide +kernel))))
      refine own_getF (pc' := 322) X748 hx hZ hown (host := "") (Or.inl (own_w hw 45 rfl)) Via.refl e748 f749 (hb hby d1_319) rfl ?_
      intro T750 X750 e750
      refine own_lushr (pc' := 323) X750 hx (hb hby d1_322) rfl ?_
      have f751 := (((((((((((((((((((((((((F_moved3.other W645 (Or.inr (slot_ne (Or.inr (own_w hw 56 rfl)) (Or.inr (own_w hw 16 rfl)) (by decide) (t := .long) (t' := .int) (by decide +kernel) (by decide +kernel)))).other W649 (Or.inr (slot_ne (Or.inr (own_w hw 56 rfl)) (Or.inr (own_w hw 19 rfl)) (by decide) (t := .long) (t' := .int) (by decide +kernel) (by decide +kernel)))).other W652 (Or.inr (slot_ne (Or.inr (own_w hw 56 rfl)) (Or.inr (own_w hw 21 rfl)) (by decide) (t := .long) (t' := .long) (by decide +kernel) (by decide +kernel)))).other W655 (Or.inr (slot_ne (Or.inr (own_w hw 56 rfl)) (Or.inr (own_w hw 23 rfl)) (by decide) (t := .long) (t' := .long) (by decide +kernel) (by decide +kernel)))).other W659 (Or.inr (slot_ne (Or.inr (own_w hw 56 rfl)) (Or.inr (own_w hw 25 rfl)) (by decide) (t := .long) (t' := .int) (by decide +kernel) (by decide +kernel)))).other W664 (Or.inr (slot_ne (Or.inr (own_w hw 56 rfl)) (Or.inr (own_w hw 27 rfl)) (by decide) (t := .long) (t' := .long) (by decide +kernel) (by decide +kernel)))).ext E666).keep K670 (ninS ne_a1_b666 nin0)).keep K673 (ninS ne_a1_b666 nin0)).keep K676 (ninS ne_a1_b666 nin0)).keep K679 (ninS ne_a1_b666 nin0)).keep K682 (ninS ne_a1_b666 nin0)).other W687 (Or.inr (slot_ne (Or.inr (own_w hw 56 rfl)) (Or.inr (own_w hw 30 rfl)) (by decide) (t := .long) (t' := .long) (by decide +kernel) (by decide +kernel)))).other W691 (Or.inr (slot_ne (Or.inr (own_w hw 56 rfl)) (Or.inr (own_w hw 32 rfl)) (by decide) (t := .long) (t' := .long) (by decide +kernel) (by decide +kernel)))).other W695 (Or.inr (slot_ne (Or.inr (own_w hw 56 rfl)) (Or.inr (own_w hw 34 rfl)) (by decide) (t := .long) (t' := .long) (by decide +kernel) (by decide +kernel)))).other W699 (Or.inr (slot_ne (Or.inr (own_w hw 56 rfl)) (Or.inr (own_w hw 36 rfl)) (by decide) (t := .long) (t' := .long) (by decide +kernel) (by decide +kernel)))).other W703 (Or.inr (slot_ne (Or.inr (own_w hw 56 rfl)) (Or.inr (own_w hw 38 rfl)) (by decide) (t := .long) (t' := .long) (by decide +kernel) (by decide +kernel)))).other W706 (Or.inr (slot_ne (Or.inr (own_w hw 56 rfl)) (Or.inr (own_w hw 40 rfl)) (by decide) (t := .long) (t' := .int) (by decide +kernel) (by decide +kernel)))).other W709 (Or.inr (slot_ne (Or.inr (own_w hw 56 rfl)) (Or.inr (own_w hw 42 rfl)) (by decide) (t := .long) (t' := .int) (by decide +kernel) (by decide +kernel)))).other W713 (Or.inr (slot_ne (Or.inr (own_w hw 56 rfl)) (Or.inr (own_w hw 44 rfl)) (by decide) (t := .long) (t' := .int) (by decide +kernel) (by decide +kernel)))).other W717 (Or.inr (slot_ne (Or.inr (own_w hw 56 rfl)) (Or.inr (own_w hw 46 rfl)) (by decide) (t := .long) (t' := .int) (by decide +kernel) (by decide +kernel)))).other W721 (Or.inr (slot_ne (Or.inr (own_w hw 56 rfl)) (Or.inr (own_w hw 48 rfl)) (by decide) (t := .long) (t' := .int) (by decide +kernel) (by decide +kernel)))).other W729 (Or.inr (slot_ne (Or.inr (own_w hw 56 rfl)) (Or.inr (own_w hw 50 rfl)) (by decide) (t := .long) (t' := .long) (by decide +kernel) (by decide +kernel)))).other W737 (Or.inr (slot_ne (Or.inr (own_w hw 56 rfl)) (Or.inr (own_w hw 52 rfl)) (by decide) (t := .long) (t' := .long) (by decide +kernel) (by decide +kernel)))).other W745 (Or.inr (slot_ne (Or.inr (own_w hw 56 rfl)) (Or.inr (own_w hw 54 rfl)) (by decide) (t := .long) (t' := .long) (by decide +kernel) (by decide +kernel))))
      have f752 := (f744.wr W745)
      obtain ⟨v754, hv754⟩ : ∃ z : Int64, z = ((mv679.toUInt64 >>> (v718 &&& 0x3f).toInt64.toUInt64).toInt64) := ⟨_, rfl⟩
      rw [← hv754]
      refine own_putF (pc' := 326) X750 hx hZ hown (host := "") (Or.inl (own_w hw 55 rfl)) Via.refl e750 f751 f752 (Or.inr ⟨(own_w hw 56 rfl), rfl, hnm⟩) (own_w hw 2 rfl) (ty := .long) (by decide) rfl rfl (hb hby d1_323) rfl ?_
      intro T753 h753 X753 e753 W753
      have z753 : n0 ≤ h753.size := Nat.le_trans z745 (Keep.of_wr W753).1
      have Fw753 := f751.same W753
      have N753 := Fr.snoc X753 N745 g_a1
      have K753 : Keep h0 h753 [a1] := K745.wr W753 (Or.inl (List.mem_of_getElem? (i := 0) rfl))
      refine own_aloadN (pc' := 327) X753 hx (hb hby d1_326) rfl rfl rfl ?_
      refine own_aloadN (pc' := 328) X753 hx (hb hby d1_327) rfl rfl rfl ?_
      have f755 := (((((((((Fw703.other W706 (Or.inr (slot_ne (Or.inr (own_w hw 38 rfl)) (Or.inr (own_w hw 40 rfl)) (by decide) (t := .long) (t' := .int) (by decide +kernel) (by decide +kernel)))).other W709 (Or.inr (slot_ne (Or.inr (own_w hw 38 rfl)) (Or.inr (own_w hw 42 rfl)) (by decide) (t := .long) (t' := .int) (by decide +kernel) (by decide +kernel)))).other W713 (Or.inr (slot_ne (Or.inr (own_w hw 38 rfl)) (Or.inr (own_w hw 44 rfl)) (by decide) (t := .long) (t' := .int) (by decide +kernel) (by decide +kernel)))).other W717 (Or.inr (slot_ne (Or.inr (own_w hw 38 rfl)) (Or.inr (own_w hw 46 rfl)) (by decide) (t := .long) (t' := .int) (by decide +kernel) (by decide +kernel)))).other W721 (Or.inr (slot_ne (Or.inr (own_w hw 38 rfl)) (Or.inr (own_w hw 48 rfl)) (by decide) (t := .long) (t' := .int) (by decide +kernel) (by decide +kernel)))).other W729 (Or.inr (slot_ne (Or.inr (own_w hw 38 rfl)) (Or.inr (own_w hw 50 rfl)) (by decide) (t := .long) (t' := .long) (by decide +kernel) (by decide +kernel)))).other W737 (Or.inr (slot_ne (Or.inr (own_w hw 38 rfl)) (Or.inr (own_w hw 52 rfl)) (by decide) (t := .long) (t' := .long) (by decide +kernel) (by decide +kernel)))).other W745 (Or.inr (slot_ne (Or.inr (own_w hw 38 rfl)) (Or.inr (own_w hw 54 rfl)) (by decide) (t := .long) (t' := .long) (by decide +kernel) (by decide +kernel)))).other W753 (Or.inr (slot_ne (Or.inr (own_w hw 38 rfl)) (Or.inr (own_w hw 56 rfl)) (by decide) (t := .long) (t' := .long) (by decide +kernel) (by decide +kernel))))
      refine own_getF (pc' := 331) X753 hx hZ hown (host := "") (Or.inl (own_w hw 37 rfl)) Via.refl e753 f755 (hb hby d1_328) rfl ?_
      intro T756 X756 e756
      refine own_aloadN (pc' := 332) X756 hx (hb hby d1_331) rfl rfl rfl ?_
      have f757 := ((((Fw721.other W729 (Or.inr (slot_ne (Or.inr (own_w hw 48 rfl)) (Or.inr (own_w hw 50 rfl)) (by decide) (t := .int) (t' := .long) (by decide +kernel) (by decide +kernel)))).other W737 (Or.inr (slot_ne (Or.inr (own_w hw 48 rfl)) (Or.inr (own_w hw 52 rfl)) (by decide) (t := .int) (t' := .long) (by decide +kernel) (by decide +kernel)))).other W745 (Or.inr (slot_ne (Or.inr (own_w hw 48 rfl)) (Or.inr (own_w hw 54 rfl)) (by decide) (t := .int) (t' := .long) (by decide +kernel) (by decide +kernel)))).other W753 (Or.inr (slot_ne (Or.inr (own_w hw 48 rfl)) (Or.inr (own_w hw 56 rfl)) (by decide) (t := .int) (t' := .long) (by decide +kernel) (by decide +kernel))))
      refine own_getF (pc' := 335) X756 hx hZ hown (host := "") (Or.inl (own_w hw 47 rfl)) Via.refl e756 f757 (hb hby d1_332) rfl ?_
      intro T758 X758 e758
      refine own_lushr (pc' := 336) X758 hx (hb hby d1_335) rfl ?_
      have f759 := ((((((((((((((((((((((((((F_moved4.other W645 (Or.inr (slot_ne (Or.inr (own_w hw 58 rfl)) (Or.inr (own_w hw 16 rfl)) (by decide) (t := .long) (t' := .int) (by decide +kernel) (by decide +kernel)))).other W649 (Or.inr (slot_ne (Or.inr (own_w hw 58 rfl)) (Or.inr (own_w hw 19 rfl)) (by decide) (t := .long) (t' := .int) (by decide +kernel) (by decide +kernel)))).other W652 (Or.inr (slot_ne (Or.inr (own_w hw 58 rfl)) (Or.inr (own_w hw 21 rfl)) (by decide) (t := .long) (t' := .long) (by decide +kernel) (by decide +kernel)))).other W655 (Or.inr (slot_ne (Or.inr (own_w hw 58 rfl)) (Or.inr (own_w hw 23 rfl)) (by decide) (t := .long) (t' := .long) (by decide +kernel) (by decide +kernel)))).other W659 (Or.inr (slot_ne (Or.inr (own_w hw 58 rfl)) (Or.inr (own_w hw 25 rfl)) (by decide) (t := .long) (t' := .int) (by decide +kernel) (by decide +kernel)))).other W664 (Or.inr (slot_ne (Or.inr (own_w hw 58 rfl)) (Or.inr (own_w hw 27 rfl)) (by decide) (t := .long) (t' := .long) (by decide +kernel) (by decide +kernel)))).ext E666).keep K670 (ninS ne_a1_b666 nin0)).keep K673 (ninS ne_a1_b666 nin0)).keep K676 (ninS ne_a1_b666 nin0)).keep K679 (ninS ne_a1_b666 nin0)).keep K682 (ninS ne_a1_b666 nin0)).other W687 (Or.inr (slot_ne (Or.inr (own_w hw 58 rfl)) (Or.inr (own_w hw 30 rfl)) (by decide) (t := .long) (t' := .long) (by decide +kernel) (by decide +kernel)))).other W691 (Or.inr (slot_ne (Or.inr (own_w hw 58 rfl)) (Or.inr (own_w hw 32 rfl)) (by decide) (t := .long) (t' := .long) (by decide +kernel) (by decide +kernel)))).other W695 (Or.inr (slot_ne (Or.inr (own_w hw 58 rfl)) (Or.inr (own_w hw 34 rfl)) (by decide) (t := .long) (t' := .long) (by decide +kernel) (by decide +kernel)))).other W699 (Or.inr (slot_ne (Or.inr (own_w hw 58 rfl)) (Or.inr (own_w hw 36 rfl)) (by decide) (t := .long) (t' := .long) (by decide +kernel) (by decide +kernel)))).other W703 (Or.inr (slot_ne (Or.inr (own_w hw 58 rfl)) (Or.inr (own_w hw 38 rfl)) (by decide) (t := .long) (t' := .long) (by decide +kernel) (by decide +kernel)))).other W706 (Or.inr (slot_ne (Or.inr (own_w hw 58 rfl)) (Or.inr (own_w hw 40 rfl)) (by decide) (t := .long) (t' := .int) (by decide +kernel) (by decide +kernel)))).other W709 (Or.inr (slot_ne (Or.inr (own_w hw 58 rfl)) (Or.inr (own_w hw 42 rfl)) (by decide) (t := .long) (t' := .int) (by decide +kernel) (by decide +kernel)))).other W713 (Or.inr (slot_ne (Or.inr (own_w hw 58 rfl)) (Or.inr (own_w hw 44 rfl)) (by decide) (t := .long) (t' := .int) (by decide +kernel) (by decide +kernel)))).other W717 (Or.inr (slot_ne (Or.inr (own_w hw 58 rfl)) (Or.inr (own_w hw 46 rfl)) (by decide) (t := .long) (t' := .int) (by decide +kernel) (by decide +kernel)))).other W721 (Or.inr (slot_ne (Or.inr (own_w hw 58 rfl)) (Or.inr (own_w hw 48 rfl)) (by decide) (t := .long) (t' := .int) (by decide +kernel) (by decide +kernel)))).other W729 (Or.inr (slot_ne (Or.inr (own_w hw 58 rfl)) (Or.inr (own_w hw 50 rfl)) (by decide) (t := .long) (t' := .long) (by decide +kernel) (by decide +kernel)))).other W737 (Or.inr (slot_ne (Or.inr (own_w hw 58 rfl)) (Or.inr (own_w hw 52 rfl)) (by decide) (t := .long) (t' := .long) (by decide +kernel) (by decide +kernel)))).other W745 (Or.inr (slot_ne (Or.inr (own_w hw 58 rfl)) (Or.inr (own_w hw 54 rfl)) (by decide) (t := .long) (t' := .long) (by decide +kernel) (by decide +kernel)))).other W753 (Or.inr (slot_ne (Or.inr (own_w hw 58 rfl)) (Or.inr (own_w hw 56 rfl)) (by decide) (t := .long) (t' := .long) (by decide +kernel) (by decide +kernel))))
      have f760 := (f752.wr W753)
      obtain ⟨v762, hv762⟩ : ∃ z : Int64, z = ((mv682.toUInt64 >>> (v722 &&& 0x3f).toInt64.toUInt64).toInt64) := ⟨_, rfl⟩
      rw [← hv762]
      refine own_putF (pc' := 339) X758 hx hZ hown (host := "") (Or.inl (own_w hw 57 rfl)) Via.refl e758 f759 f760 (Or.inr ⟨(own_w hw 58 rfl), rfl, hnm⟩) (own_w hw 2 rfl) (ty := .long) (by decide) rfl rfl (hb hby d1_336) rfl ?_
      intro T761 h761 X761 e761 W761
      have z761 : n0 ≤ h761.size := Nat.le_trans z753 (Keep.of_wr W761).1
      have Fw761 := f759.same W761
      have N761 := Fr.snoc X761 N753 g_a1
      have K761 : Keep h0 h761 [a1] := K753.wr W761 (Or.inl (List.mem_of_getElem? (i := 0) rfl))
      have f763 := (((((((((((((((((((((((((Fw649.other W652 (Or.inr (slot_ne (Or.inr (own_w hw 19 rfl)) (Or.inr (own_w hw 21 rfl)) (by decide) (t := .int) (t' := .long) (by decide +kernel) (by decide +kernel)))).other W655 (Or.inr (slot_ne (Or.inr (own_w hw 19 rfl)) (Or.inr (own_w hw 23 rfl)) (by decide) (t := .int) (t' := .long) (by decide +kernel) (by decide +kernel)))).other W659 (Or.inr (slot_ne (Or.inr (own_w hw 19 rfl)) (Or.inr (own_w hw 25 rfl)) (by decide) (t := .int) (t' := .int) (by decide +kernel) (by decide +kernel)))).other W664 (Or.inr (slot_ne (Or.inr (own_w hw 19 rfl)) (Or.inr (own_w hw 27 rfl)) (by decide) (t := .int) (t' := .long) (by decide +kernel) (by decide +kernel)))).ext E666).keep K670 (ninS ne_a1_b666 nin0)).keep K673 (ninS ne_a1_b666 nin0)).keep K676 (ninS ne_a1_b666 nin0)).keep K679 (ninS ne_a1_b666 nin0)).keep K682 (ninS ne_a1_b666 nin0)).other W687 (Or.inr (slot_ne (Or.inr (own_w hw 19 rfl)) (Or.inr (own_w hw 30 rfl)) (by decide) (t := .int) (t' := .long) (by decide +kernel) (by decide +kernel)))).other W691 (Or.inr (slot_ne (Or.inr (own_w hw 19 rfl)) (Or.inr (own_w hw 32 rfl)) (by decide) (t := .int) (t' := .long) (by decide +kernel) (by decide +kernel)))).other W695 (Or.inr (slot_ne (Or.inr (own_w hw 19 rfl)) (Or.inr (own_w hw 34 rfl)) (by decide) (t := .int) (t' := .long) (by decide +kernel) (by decide +kernel)))).other W699 (Or.inr (slot_ne (Or.inr (own_w hw 19 rfl)) (Or.inr (own_w hw 36 rfl)) (by decide) (t := .int) (t' := .long) (by decide +kernel) (by decide +kernel)))).other W703 (Or.inr (slot_ne (Or.inr (own_w hw 19 rfl)) (Or.inr (own_w hw 38 rfl)) (by decide) (t := .int) (t' := .long) (by decide +kernel) (by decide +kernel)))).other W706 (Or.inr (slot_ne (Or.inr (own_w hw 19 rfl)) (Or.inr (own_w hw 40 rfl)) (by decide) (t := .int) (t' := .int) (by decide +kernel) (by decide +kernel)))).other W709 (Or.inr (slot_ne (Or.inr (own_w hw 19 rfl)) (Or.inr (own_w hw 42 rfl)) (by decide) (t := .int) (t' := .int) (by decide +kernel) (by decide +kernel)))).other W713 (Or.inr (slot_ne (Or.inr (own_w hw 19 rfl)) (Or.inr (own_w hw 44 rfl)) (by decide) (t := .int) (t' := .int) (by decide +kernel) (by decide +kernel)))).other W717 (Or.inr (slot_ne (Or.inr (own_w hw 19 rfl)) (Or.inr (own_w hw 46 rfl)) (by decide) (t := .int) (t' := .int) (by decide +kernel) (by decide +kernel)))).other W721 (Or.inr (slot_ne (Or.inr (own_w hw 19 rfl)) (Or.inr (own_w hw 48 rfl)) (by decide) (t := .int) (t' := .int) (by decide +kernel) (by decide +kernel)))).other W729 (Or.inr (slot_ne (Or.inr (own_w hw 19 rfl)) (Or.inr (own_w hw 50 rfl)) (by decide) (t := .int) (t' := .long) (by decide +kernel) (by decide +kernel)))).other W737 (Or.inr (slot_ne (Or.inr (own_w hw 19 rfl)) (Or.inr (own_w hw 52 rfl)) (by decide) (t := .int) (t' := .long) (by decide +kernel) (by decide +kernel)))).other W745 (Or.inr (slot_ne (Or.inr (own_w hw 19 rfl)) (Or.inr (own_w hw 54 rfl)) (by decide) (t := .int) (t' := .long) (by decide +kernel) (by decide +kernel)))).other W753 (Or.inr (slot_ne (Or.inr (own_w hw 19 rfl)) (Or.inr (own_w hw 56 rfl)) (by decide) (t := .int) (t' := .long) (by decide +kernel) (by decide +kernel)))).other W761 (Or.inr (slot_ne (Or.inr (own_w hw 19 rfl)) (Or.inr (own_w hw 58 rfl)) (by decide) (t := .int) (t' := .long) (by decide +kernel) (by decide +kernel))))
      have f764 := ((((((((((((((((((((((((Fw652.other W655 (Or.inr (slot_ne (Or.inr (own_w hw 21 rfl)) (Or.inr (own_w hw 23 rfl)) (by decide) (t := .long) (t' := .long) (by decide +kernel) (by decide +kernel)))).other W659 (Or.inr (slot_ne (Or.inr (own_w hw 21 rfl)) (Or.inr (own_w hw 25 rfl)) (by decide) (t := .long) (t' := .int) (by decide +kernel) (by decide +kernel)))).other W664 (Or.inr (slot_ne (Or.inr (own_w hw 21 rfl)) (Or.inr (own_w hw 27 rfl)) (by decide) (t := .long) (t' := .long) (by decide +kernel) (by decide +kernel)))).ext E666).keep K670 (ninS ne_a1_b666 nin0)).keep K673 (ninS ne_a1_b666 nin0)).keep K676 (ninS ne_a1_b666 nin0)).keep K679 (ninS ne_a1_b666 nin0)).keep K682 (ninS ne_a1_b666 nin0)).other W687 (Or.inr (slot_ne (Or.inr (own_w hw 21 rfl)) (Or.inr (own_w hw 30 rfl)) (by decide) (t := .long) (t' := .long) (by decide +kernel) (by decide +kernel)))).other W691 (Or.inr (slot_ne (Or.inr (own_w hw 21 rfl)) (Or.inr (own_w hw 32 rfl)) (by decide) (t := .long) (t' := .long) (by decide +kernel) (by decide +kernel)))).other W695 (Or.inr (slot_ne (Or.inr (own_w hw 21 rfl)) (Or.inr (own_w hw 34 rfl)) (by decide) (t := .long) (t' := .long) (by decide +kernel) (by decide +kernel)))).other W699 (Or.inr (slot_ne (Or.inr (own_w hw 21 rfl)) (Or.inr (own_w hw 36 rfl)) (by decide) (t := .long) (t' := .long) (by decide +kernel) (by decide +kernel)))).other W703 (Or.inr (slot_ne (Or.inr (own_w hw 21 rfl)) (Or.inr (own_w hw 38 rfl)) (by decide) (t := .long) (t' := .long) (by decide +kernel) (by decide +kernel)))).other W706 (Or.inr (slot_ne (Or.inr (own_w hw 21 rfl)) (Or.inr (own_w hw 40 rfl)) (by decide) (t := .long) (t' := .int) (by decide +kernel) (by decide +kernel)))).other W709 (Or.inr (slot_ne (Or.inr (own_w hw 21 rfl)) (Or.inr (own_w hw 42 rfl)) (by decide) (t := .long) (t' := .int) (by decide +kernel) (by decide +kernel)))).other W713 (Or.inr (slot_ne (Or.inr (own_w hw 21 rfl)) (Or.inr (own_w hw 44 rfl)) (by decide) (t := .long) (t' := .int) (by decide +kernel) (by decide +kernel)))).other W717 (Or.inr (slot_ne (Or.inr (own_w hw 21 rfl)) (Or.inr (own_w hw 46 rfl)) (by decide) (t := .long) (t' := .int) (by decide +kernel) (by decide +kernel)))).other W721 (Or.inr (slot_ne (Or.inr (own_w hw 21 rfl)) (Or.inr (own_w hw 48 rfl)) (by decide) (t := .long) (t' := .int) (by decide +kernel) (by decide +kernel)))).other W729 (Or.inr (slot_ne (Or.inr (own_w hw 21 rfl)) (Or.inr (own_w hw 50 rfl)) (by decide) (t := .long) (t' := .long) (by decide +kernel) (by decide +kernel)))).other W737 (Or.inr (slot_ne (Or.inr (own_w hw 21 rfl)) (Or.inr (own_w hw 52 rfl)) (by decide) (t := .long) (t' := .long) (by decide +kernel) (by decide +kernel)))).other W745 (Or.inr (slot_ne (Or.inr (own_w hw 21 rfl)) (Or.inr (own_w hw 54 rfl)) (by decide) (t := .long) (t' := .long) (by decide +kernel) (by decide +kernel)))).other W753 (Or.inr (slot_ne (Or.inr (own_w hw 21 rfl)) (Or.inr (own_w hw 56 rfl)) (by decide) (t := .long) (t' := .long) (by decide +kernel) (by decide +kernel)))).other W761 (Or.inr (slot_ne (Or.inr (own_w hw 21 rfl)) (Or.inr (own_w hw 58 rfl)) (by decide) (t := .long) (t' := .long) (by decide +kernel) (by decide +kernel))))
      have f765 := (((((((((((((((((((((Fw664.ext E666).keep K670 (ninS ne_a1_b666 nin0)).keep K673 (ninS ne_a1_b666 nin0)).keep K676 (ninS ne_a1_b666 nin0)).keep K679 (ninS ne_a1_b666 nin0)).keep K682 (ninS ne_a1_b666 nin0)).other W687 (Or.inr (slot_ne (Or.inr (own_w hw 27 rfl)) (Or.inr (own_w hw 30 rfl)) (by decide) (t := .long) (t' := .long) (by decide +kernel) (by decide +kernel)))).other W691 (Or.inr (slot_ne (Or.inr (own_w hw 27 rfl)) (Or.inr (own_w hw 32 rfl)) (by decide) (t := .long) (t' := .long) (by decide +kernel) (by decide +kernel)))).other W695 (Or.inr (slot_ne (Or.inr (own_w hw 27 rfl)) (Or.inr (own_w hw 34 rfl)) (by decide) (t := .long) (t' := .long) (by decide +kernel) (by decide +kernel)))).other W699 (Or.inr (slot_ne (Or.inr (own_w hw 27 rfl)) (Or.inr (own_w hw 36 rfl)) (by decide) (t := .long) (t' := .long) (by decide +kernel) (by decide +kernel)))).other W703 (Or.inr (slot_ne (Or.inr (own_w hw 27 rfl)) (Or.inr (own_w hw 38 rfl)) (by decide) (t := .long) (t' := .long) (by decide +kernel) (by decide +kernel)))).other W706 (Or.inr (slot_ne (Or.inr (own_w hw 27 rfl)) (Or.inr (own_w hw 40 rfl)) (by decide) (t := .long) (t' := .int) (by decide +kernel) (by decide +kernel)))).other W709 (Or.inr (slot_ne (Or.inr (own_w hw 27 rfl)) (Or.inr (own_w hw 42 rfl)) (by decide) (t := .long) (t' := .int) (by decide +kernel) (by decide +kernel)))).other W713 (Or.inr (slot_ne (Or.inr (own_w hw 27 rfl)) (Or.inr (own_w hw 44 rfl)) (by decide) (t := .long) (t' := .int) (by decide +kernel) (by decide +kernel)))).other W717 (Or.inr (slot_ne (Or.inr (own_w hw 27 rfl)) (Or.inr (own_w hw 46 rfl)) (by decide) (t := .long) (t' := .int) (by decide +kernel) (by decide +kernel)))).other W721 (Or.inr (slot_ne (Or.inr (own_w hw 27 rfl)) (Or.inr (own_w hw 48 rfl)) (by decide) (t := .long) (t' := .int) (by decide +kernel) (by decide +kernel)))).other W729 (Or.inr (slot_ne (Or.inr (own_w hw 27 rfl)) (Or.inr (own_w hw 50 rfl)) (by decide) (t := .long) (t' := .long) (by decide +kernel) (by decide +kernel)))).other W737 (Or.inr (slot_ne (Or.inr (own_w hw 27 rfl)) (Or.inr (own_w hw 52 rfl)) (by decide) (t := .long) (t' := .long) (by decide +kernel) (by decide +kernel)))).other W745 (Or.inr (slot_ne (Or.inr (own_w hw 27 rfl)) (Or.inr (own_w hw 54 rfl)) (by decide) (t := .long) (t' := .long) (by decide +kernel) (by decide +kernel)))).other W753 (Or.inr (slot_ne (Or.inr (own_w hw 27 rfl)) (Or.inr (own_w hw 56 rfl)) (by decide) (t := .long) (t' := .long) (by decide +kernel) (by decide +kernel)))).other W761 (Or.inr (slot_ne (Or.inr (own_w hw 27 rfl)) (Or.inr (own_w hw 58 rfl)) (by decide) (t := .long) (t' := .long) (by decide +kernel) (by decide +kernel))))
      have f766 := (((((((((((((((f683.other W687 (Or.inr (slot_ne (Or.inr (own_w hw 16 rfl)) (Or.inr (own_w hw 30 rfl)) (by decide) (t := .int) (t' := .long) (by decide +kernel) (by decide +kernel)))).other W691 (Or.inr (slot_ne (Or.inr (own_w hw 16 rfl)) (Or.inr (own_w hw 32 rfl)) (by decide) (t := .int) (t' := .long) (by decide +kernel) (by decide +kernel)))).other W695 (Or.inr (slot_ne (Or.inr (own_w hw 16 rfl)) (Or.inr (own_w hw 34 rfl)) (by decide) (t := .int) (t' := .long) (by decide +kernel) (by decide +kernel)))).other W699 (Or.inr (slot_ne (Or.inr (own_w hw 16 rfl)) (Or.inr (own_w hw 36 rfl)) (by decide) (t := .int) (t' := .long) (by decide +kernel) (by decide +kernel)))).other W703 (Or.inr (slot_ne (Or.inr (own_w hw 16 rfl)) (Or.inr (own_w hw 38 rfl)) (by decide) (t := .int) (t' := .long) (by decide +kernel) (by decide +kernel)))).other W706 (Or.inr (slot_ne (Or.inr (own_w hw 16 rfl)) (Or.inr (own_w hw 40 rfl)) (by decide) (t := .int) (t' := .int) (by decide +kernel) (by decide +kernel)))).other W709 (Or.inr (slot_ne (Or.inr (own_w hw 16 rfl)) (Or.inr (own_w hw 42 rfl)) (by decide) (t := .int) (t' := .int) (by decide +kernel) (by decide +kernel)))).other W713 (Or.inr (slot_ne (Or.inr (own_w hw 16 rfl)) (Or.inr (own_w hw 44 rfl)) (by decide) (t := .int) (t' := .int) (by decide +kernel) (by decide +kernel)))).other W717 (Or.inr (slot_ne (Or.inr (own_w hw 16 rfl)) (Or.inr (own_w hw 46 rfl)) (by decide) (t := .int) (t' := .int) (by decide +kernel) (by decide +kernel)))).other W721 (Or.inr (slot_ne (Or.inr (own_w hw 16 rfl)) (Or.inr (own_w hw 48 rfl)) (by decide) (t := .int) (t' := .int) (by decide +kernel) (by decide +kernel)))).other W729 (Or.inr (slot_ne (Or.inr (own_w hw 16 rfl)) (Or.inr (own_w hw 50 rfl)) (by decide) (t := .int) (t' := .long) (by decide +kernel) (by decide +kernel)))).other W737 (Or.inr (slot_ne (Or.inr (own_w hw 16 rfl)) (Or.inr (own_w hw 52 rfl)) (by decide) (t := .int) (t' := .long) (by decide +kernel) (by decide +kernel)))).other W745 (Or.inr (slot_ne (Or.inr (own_w hw 16 rfl)) (Or.inr (own_w hw 54 rfl)) (by decide) (t := .int) (t' := .long) (by decide +kernel) (by decide +kernel)))).other W753 (Or.inr (slot_ne (Or.inr (own_w hw 16 rfl)) (Or.inr (own_w hw 56 rfl)) (by decide) (t := .int) (t' := .long) (by decide +kernel) (by decide +kernel)))).other W761 (Or.inr (slot_ne (Or.inr (own_w hw 16 rfl)) (Or.inr (own_w hw 58 rfl)) (by decide) (t := .int) (t' := .long) (by decide +kernel) (by decide +kernel))))
      have f767 := (((((f723.other W729 (Or.inr (slot_ne (Or.inr (own_w hw 30 rfl)) (Or.inr (own_w hw 50 rfl)) (by decide) (t := .long) (t' := .long) (by decide +kernel) (by decide +kernel)))).other W737 (Or.inr (slot_ne (Or.inr (own_w hw 30 rfl)) (Or.inr (own_w hw 52 rfl)) (by decide) (t := .long) (t' := .long) (by decide +kernel) (by decide +kernel)))).other W745 (Or.inr (slot_ne (Or.inr (own_w hw 30 rfl)) (Or.inr (own_w hw 54 rfl)) (by decide) (t := .long) (t' := .long) (by decide +kernel) (by decide +kernel)))).other W753 (Or.inr (slot_ne (Or.inr (own_w hw 30 rfl)) (Or.inr (own_w hw 56 rfl)) (by decide) (t := .long) (t' := .long) (by decide +kernel) (by decide +kernel)))).other W761 (Or.inr (slot_ne (Or.inr (own_w hw 30 rfl)) (Or.inr (own_w hw 58 rfl)) (by decide) (t := .long) (t' := .long) (by decide +kernel) (by decide +kernel))))
      have f768 := ((((f731.other W737 (Or.inr (slot_ne (Or.inr (own_w hw 32 rfl)) (Or.inr (own_w hw 52 rfl)) (by decide) (t := .long) (t' := .long) (by decide +kernel) (by decide +kernel)))).other W745 (Or.inr (slot_ne (Or.inr (own_w hw 32 rfl)) (Or.inr (own_w hw 54 rfl)) (by decide) (t := .long) (t' := .long) (by decide +kernel) (by decide +kernel)))).other W753 (Or.inr (slot_ne (Or.inr (own_w hw 32 rfl)) (Or.inr (own_w hw 56 rfl)) (by decide) (t := .long) (t' := .long) (by decide +kernel) (by decide +kernel)))).other W761 (Or.inr (slot_ne (Or.inr (own_w hw 32 rfl)) (Or.inr (own_w hw 58 rfl)) (by decide) (t := .long) (t' := .long) (by decide +kernel) (by decide +kernel))))
      have f769 := (((f739.other W745 (Or.inr (slot_ne (Or.inr (own_w hw 34 rfl)) (Or.inr (own_w hw 54 rfl)) (by decide) (t := .long) (t' := .long) (by decide +kernel) (by decide +kernel)))).other W753 (Or.inr (slot_ne (Or.inr (own_w hw 34 rfl)) (Or.inr (own_w hw 56 rfl)) (by decide) (t := .long) (t' := .long) (by decide +kernel) (by decide +kernel)))).other W761 (Or.inr (slot_ne (Or.inr (own_w hw 34 rfl)) (Or.inr (own_w hw 58 rfl)) (by decide) (t := .long) (t' := .long) (by decide +kernel) (by decide +kernel))))
      have f770 := ((f747.other W753 (Or.inr (slot_ne (Or.inr (own_w hw 36 rfl)) (Or.inr (own_w hw 56 rfl)) (by decide) (t := .long) (t' := .long) (by decide +kernel) (by decide +kernel)))).other W761 (Or.inr (slot_ne (Or.inr (own_w hw 36 rfl)) (Or.inr (own_w hw 58 rfl)) (by decide) (t := .long) (t' := .long) (by decide +kernel) (by decide +kernel))))
      have f771 := (f755.other W761 (Or.inr (slot_ne (Or.inr (own_w hw 38 rfl)) (Or.inr (own_w hw 58 rfl)) (by decide) (t := .long) (t' := .long) (by decide +kernel) (by decide +kernel))))
      have f772 := ((((Fw729.other W737 (Or.inr (slot_ne (Or.inr (own_w hw 50 rfl)) (Or.inr (own_w hw 52 rfl)) (by decide) (t := .long) (t' := .long) (by decide +kernel) (by decide +kernel)))).other W745 (Or.inr (slot_ne (Or.inr (own_w hw 50 rfl)) (Or.inr (own_w hw 54 rfl)) (by decide) (t := .long) (t' := .long) (by decide +kernel) (by decide +kernel)))).other W753 (Or.inr (slot_ne (Or.inr (own_w hw 50 rfl)) (Or.inr (own_w hw 56 rfl)) (by decide) (t := .long) (t' := .long) (by decide +kernel) (by decide +kernel)))).other W761 (Or.inr (slot_ne (Or.inr (own_w hw 50 rfl)) (Or.inr (own_w hw 58 rfl)) (by decide) (t := .long) (t' := .long) (by decide +kernel) (by decide +kernel))))
      have f773 := (((Fw737.other W745 (Or.inr (slot_ne (Or.inr (own_w hw 52 rfl)) (Or.inr (own_w hw 54 rfl)) (by decide) (t := .long) (t' := .long) (by decide +kernel) (by decide +kernel)))).other W753 (Or.inr (slot_ne (Or.inr (own_w hw 52 rfl)) (Or.inr (own_w hw 56 rfl)) (by decide) (t := .long) (t' := .long) (by decide +kernel) (by decide +kernel)))).other W761 (Or.inr (slot_ne (Or.inr (own_w hw 52 rfl)) (Or.inr (own_w hw 58 rfl)) (by decide) (t := .long) (t' := .long) (by decide +kernel) (by decide +kernel))))
      have f774 := ((Fw745.other W753 (Or.inr (slot_ne (Or.inr (own_w hw 54 rfl)) (Or.inr (own_w hw 56 rfl)) (by decide) (t := .long) (t' := .long) (by decide +kernel) (by decide +kernel)))).other W761 (Or.inr (slot_ne (Or.inr (own_w hw 54 rfl)) (Or.inr (own_w hw 58 rfl)) (by decide) (t := .long) (t' := .long) (by decide +kernel) (by decide +kernel))))
      have f775 := (Fw753.other W761 (Or.inr (slot_ne (Or.inr (own_w hw 56 rfl)) (Or.inr (own_w hw 58 rfl)) (by decide) (t := .long) (t' := .long) (by decide +kernel) (by decide +kernel))))
      have f776 := (((((f725.other W729 (Or.inr (slot_ne (Or.inr (own_w hw 40 rfl)) (Or.inr (own_w hw 50 rfl)) (by decide) (t := .int) (t' := .long) (by decide +kernel) (by decide +kernel)))).other W737 (Or.inr (slot_ne (Or.inr (own_w hw 40 rfl)) (Or.inr (own_w hw 52 rfl)) (by decide) (t := .int) (t' := .long) (by decide +kernel) (by decide +kernel)))).other W745 (Or.inr (slot_ne (Or.inr (own_w hw 40 rfl)) (Or.inr (own_w hw 54 rfl)) (by decide) (t := .int) (t' := .long) (by decide +kernel) (by decide +kernel)))).other W753 (Or.inr (slot_ne (Or.inr (own_w hw 40 rfl)) (Or.inr (own_w hw 56 rfl)) (by decide) (t := .int) (t' := .long) (by decide +kernel) (by decide +kernel)))).other W761 (Or.inr (slot_ne (Or.inr (own_w hw 40 rfl)) (Or.inr (own_w hw 58 rfl)) (by decide) (t := .int) (t' := .long) (by decide +kernel) (by decide +kernel))))
      have f777 := ((((f733.other W737 (Or.inr (slot_ne (Or.inr (own_w hw 42 rfl)) (Or.inr (own_w hw 52 rfl)) (by decide) (t := .int) (t' := .long) (by decide +kernel) (by decide +kernel)))).other W745 (Or.inr (slot_ne (Or.inr (own_w hw 42 rfl)) (Or.inr (own_w hw 54 rfl)) (by decide) (t := .int) (t' := .long) (by decide +kernel) (by decide +kernel)))).other W753 (Or.inr (slot_ne (Or.inr (own_w hw 42 rfl)) (Or.inr (own_w hw 56 rfl)) (by decide) (t := .int) (t' := .long) (by decide +kernel) (by decide +kernel)))).other W761 (Or.inr (slot_ne (Or.inr (own_w hw 42 rfl)) (Or.inr (own_w hw 58 rfl)) (by decide) (t := .int) (t' := .long) (by decide +kernel) (by decide +kernel))))
      have f778 := (((f741.other W745 (Or.inr (slot_ne (Or.inr (own_w hw 44 rfl)) (Or.inr (own_w hw 54 rfl)) (by decide) (t := .int) (t' := .long) (by decide +kernel) (by decide +kernel)))).other W753 (Or.inr (slot_ne (Or.inr (own_w hw 44 rfl)) (Or.inr (own_w hw 56 rfl)) (by decide) (t := .int) (t' := .long) (by decide +kernel) (by decide +kernel)))).other W761 (Or.inr (slot_ne (Or.inr (own_w hw 44 rfl)) (Or.inr (own_w hw 58 rfl)) (by decide) (t := .int) (t' := .long) (by decide +kernel) (by decide +kernel))))
      have f779 := ((f749.other W753 (Or.inr (slot_ne (Or.inr (own_w hw 46 rfl)) (Or.inr (own_w hw 56 rfl)) (by decide) (t := .int) (t' := .long) (by decide +kernel) (by decide +kernel)))).other W761 (Or.inr (slot_ne (Or.inr (own_w hw 46 rfl)) (Or.inr (own_w hw 58 rfl)) (by decide) (t := .int) (t' := .long) (by decide +kernel) (by decide +kernel))))
      have f780 := (f757.other W761 (Or.inr (slot_ne (Or.inr (own_w hw 48 rfl)) (Or.inr (own_w hw 58 rfl)) (by decide) (t := .int) (t' := .long) (by decide +kernel) (by decide +kernel))))
      have f781 := (f760.wr W761)
      refine own_ret0 X761 hx hlk hret (hb hby d1_339) (by decide) (by decide) ?_
      rw [e761]
      have hlow : ∀ x, own_bit v665 x = decide (x < nn * wn) := by rw [hv665]; exact own_wbq _ _ (by rw [hv660]; exact own_mulN hN hW (by omega)) (by have := Nat.mul_le_mul hn1 hw1; omega) hcn
      have hd0 : v2.toBitVec.toNat % 64 = 2 ^ 0 * (pn - wn) := by have q := own_shq _ _ hG; have lt0 := (own_dlt hsp hw1 (hRP.2.2 0 (by decide))); show v2.toBitVec.toNat % 64 = 2 ^ 0 * (pn - wn); rw [q]; omega
      have hd1 : v710.toBitVec.toNat % 64 = 2 ^ 1 * (pn - wn) := by rw [hv710]; exact own_dist _ _ 1 _ (by decide) (by decide) hG (own_dlt hsp hw1 (hRP.2.2 1 (by decide)))
      have hd2 : v714.toBitVec.toNat % 64 = 2 ^ 2 * (pn - wn) := by rw [hv714]; exact own_dist _ _ 2 _ (by decide) (by decide) hG (own_dlt hsp hw1 (hRP.2.2 2 (by decide)))
      have hd3 : v718.toBitVec.toNat % 64 = 2 ^ 3 * (pn - wn) := by rw [hv718]; exact own_dist _ _ 3 _ (by decide) (by decide) hG (own_dlt hsp hw1 (hRP.2.2 3 (by decide)))
      have hd4 : v722.toBitVec.toNat % 64 = 2 ^ 4 * (pn - wn) := by rw [hv722]; exact own_dist _ _ 4 _ (by decide) (by decide) hG (own_dlt hsp hw1 (hRP.2.2 4 (by decide)))
      have hWM : own_WM wn pn nn 5 vS v665 (own_5 mv670 mv673 mv676 mv679 mv682) (own_5 v730 v738 v746 v754 v762) (own_5 v2 v710 v714 v718 v722) := by
        refine ⟨hRP, hUS, hlow, fun r hr => ?_⟩
        rcases (show r = 0 ∨ r = 1 ∨ r = 2 ∨ r = 3 ∨ r = 4 by omega) with rfl | rfl | rfl | rfl | rfl
        · exact ⟨hU670, hv730, hd0⟩
        · exact ⟨hU673, hv738, hd1⟩
        · exact ⟨hU676, hv746, hd2⟩
        · exact ⟨hU679, hv754, hd3⟩
        · exact ⟨hU682, hv762, hd4⟩
      exact ⟨5, _, _, _, _, _, _, _, _, _, _, _, _, _, _, _, _, _, _, by decide, hWM, rfl, N761, K761, f781, f763, f764, f765, f766, f767, f768, f769, f770, f771, f772, f773, f774, f775, Fw761, f776, f777, f778, f779, f780⟩
theorem d4_0 : decode prog_36_method_5_code 0 = .ok (.lload_n 1, 1) := by decide +kernel
theorem d4_1 : decode prog_36_method_5_code 1 = .ok (.aload_n 0, 1) := by decide +kernel
theorem d4_2 : decode prog_36_method_5_code 2 = .ok (.getfield 36, 3) := by decide +kernel
theorem d4_5 : decode prog_36_method_5_code 5 = .ok (.land, 1) := by decide +kernel
theorem d4_6 : decode prog_36_method_5_code 6 = .ok (.lstore_n 3, 1) := by decide +kernel
theorem d4_7 : decode prog_36_method_5_code 7 = .ok (.aload_n 0, 1) := by decide +kernel
theorem d4_8 : decode prog_36_method_5_code 8 = .ok (.getfield 13, 3) := by decide +kernel
theorem d4_11 : decode prog_36_method_5_code 11 = .ok (.iconst 4, 1) := by decide +kernel
theorem d4_12 : decode prog_36_method_5_code 12 = .ok (.if_icmp .le 24, 3) := by decide +kernel
theorem d4_15 : decode prog_36_method_5_code 15 = .ok (.lload_n 3, 1) := by decide +kernel
theorem d4_16 : decode prog_36_method_5_code 16 = .ok (.aload_n 0, 1) := by decide +kernel
theorem d4_17 : decode prog_36_method_5_code 17 = .ok (.getfield 81, 3) := by decide +kernel
theorem d4_20 : decode prog_36_method_5_code 20 = .ok (.land, 1) := by decide +kernel
theorem d4_21 : decode prog_36_method_5_code 21 = .ok (.lstore 5, 2) := by decide +kernel
theorem d4_23 : decode prog_36_method_5_code 23 = .ok (.lload_n 3, 1) := by decide +kernel
theorem d4_24 : decode prog_36_method_5_code 24 = .ok (.lload 5, 2) := by decide +kernel
theorem d4_26 : decode prog_36_method_5_code 26 = .ok (.lxor, 1) := by decide +kernel
theorem d4_27 : decode prog_36_method_5_code 27 = .ok (.lload 5, 2) := by decide +kernel
theorem d4_29 : decode prog_36_method_5_code 29 = .ok (.aload_n 0, 1) := by decide +kernel
theorem d4_30 : decode prog_36_method_5_code 30 = .ok (.getfield 66, 3) := by decide +kernel
theorem d4_33 : decode prog_36_method_5_code 33 = .ok (.lshl, 1) := by decide +kernel
theorem d4_34 : decode prog_36_method_5_code 34 = .ok (.lor, 1) := by decide +kernel
theorem d4_35 : decode prog_36_method_5_code 35 = .ok (.lstore_n 3, 1) := by decide +kernel
theorem d4_36 : decode prog_36_method_5_code 36 = .ok (.aload_n 0, 1) := by decide +kernel
theorem d4_37 : decode prog_36_method_5_code 37 = .ok (.getfield 13, 3) := by decide +kernel
theorem d4_40 : decode prog_36_method_5_code 40 = .ok (.iconst 3, 1) := by decide +kernel
theorem d4_41 : decode prog_36_method_5_code 41 = .ok (.if_icmp .le 24, 3) := by decide +kernel
theorem d4_44 : decode prog_36_method_5_code 44 = .ok (.lload_n 3, 1) := by decide +kernel
theorem d4_45 : decode prog_36_method_5_code 45 = .ok (.aload_n 0, 1) := by decide +kernel
theorem d4_46 : decode prog_36_method_5_code 46 = .ok (.getfield 78, 3) := by decide +kernel
theorem d4_49 : decode prog_36_method_5_code 49 = .ok (.land, 1) := by decide +kernel
theorem d4_50 : decode prog_36_method_5_code 50 = .ok (.lstore 5, 2) := by decide +kernel
theorem d4_52 : decode prog_36_method_5_code 52 = .ok (.lload_n 3, 1) := by decide +kernel
theorem d4_53 : decode prog_36_method_5_code 53 = .ok (.lload 5, 2) := by decide +kernel
theorem d4_55 : decode prog_36_method_5_code 55 = .ok (.lxor, 1) := by decide +kernel
theorem d4_56 : decode prog_36_method_5_code 56 = .ok (.lload 5, 2) := by decide +kernel
theorem d4_58 : decode prog_36_method_5_code 58 = .ok (.aload_n 0, 1) := by decide +kernel
theorem d4_59 : decode prog_36_method_5_code 59 = .ok (.getfield 63, 3) := by decide +kernel
theorem d4_62 : decode prog_36_method_5_code 62 = .ok (.lshl, 1) := by decide +kernel
theorem d4_63 : decode prog_36_method_5_code 63 = .ok (.lor, 1) := by decide +kernel
theorem d4_64 : decode prog_36_method_5_code 64 = .ok (.lstore_n 3, 1) := by decide +kernel
theorem d4_65 : decode prog_36_method_5_code 65 = .ok (.aload_n 0, 1) := by decide +kernel
theorem d4_66 : decode prog_36_method_5_code 66 = .ok (.getfield 13, 3) := by decide +kernel
theorem d4_69 : decode prog_36_method_5_code 69 = .ok (.iconst 2, 1) := by decide +kernel
theorem d4_70 : decode prog_36_method_5_code 70 = .ok (.if_icmp .le 24, 3) := by decide +kernel
theorem d4_73 : decode prog_36_method_5_code 73 = .ok (.lload_n 3, 1) := by decide +kernel
theorem d4_74 : decode prog_36_method_5_code 74 = .ok (.aload_n 0, 1) := by decide +kernel
theorem d4_75 : decode prog_36_method_5_code 75 = .ok (.getfield 75, 3) := by decide +kernel
theorem d4_78 : decode prog_36_method_5_code 78 = .ok (.land, 1) := by decide +kernel
theorem d4_79 : decode prog_36_method_5_code 79 = .ok (.lstore 5, 2) := by decide +kernel
theorem d4_81 : decode prog_36_method_5_code 81 = .ok (.lload_n 3, 1) := by decide +kernel
theorem d4_82 : decode prog_36_method_5_code 82 = .ok (.lload 5, 2) := by decide +kernel
theorem d4_84 : decode prog_36_method_5_code 84 = .ok (.lxor, 1) := by decide +kernel
theorem d4_85 : decode prog_36_method_5_code 85 = .ok (.lload 5, 2) := by decide +kernel
theorem d4_87 : decode prog_36_method_5_code 87 = .ok (.aload_n 0, 1) := by decide +kernel
theorem d4_88 : decode prog_36_method_5_code 88 = .ok (.getfield 60, 3) := by decide +kernel
theorem d4_91 : decode prog_36_method_5_code 91 = .ok (.lshl, 1) := by decide +kernel
theorem d4_92 : decode prog_36_method_5_code 92 = .ok (.lor, 1) := by decide +kernel
theorem d4_93 : decode prog_36_method_5_code 93 = .ok (.lstore_n 3, 1) := by decide +kernel
theorem d4_94 : decode prog_36_method_5_code 94 = .ok (.aload_n 0, 1) := by decide +kernel
theorem d4_95 : decode prog_36_method_5_code 95 = .ok (.getfield 13, 3) := by decide +kernel
theorem d4_98 : decode prog_36_method_5_code 98 = .ok (.iconst 1, 1) := by decide +kernel
theorem d4_99 : decode prog_36_method_5_code 99 = .ok (.if_icmp .le 24, 3) := by decide +kernel
theorem d4_102 : decode prog_36_method_5_code 102 = .ok (.lload_n 3, 1) := by decide +kernel
theorem d4_103 : decode prog_36_method_5_code 103 = .ok (.aload_n 0, 1) := by decide +kernel
theorem d4_104 : decode prog_36_method_5_code 104 = .ok (.getfield 72, 3) := by decide +kernel
theorem d4_107 : decode prog_36_method_5_code 107 = .ok (.land, 1) := by decide +kernel
theorem d4_108 : decode prog_36_method_5_code 108 = .ok (.lstore 5, 2) := by decide +kernel
theorem d4_110 : decode prog_36_method_5_code 110 = .ok (.lload_n 3, 1) := by decide +kernel
theorem d4_111 : decode prog_36_method_5_code 111 = .ok (.lload 5, 2) := by decide +kernel
theorem d4_113 : decode prog_36_method_5_code 113 = .ok (.lxor, 1) := by decide +kernel
theorem d4_114 : decode prog_36_method_5_code 114 = .ok (.lload 5, 2) := by decide +kernel
theorem d4_116 : decode prog_36_method_5_code 116 = .ok (.aload_n 0, 1) := by decide +kernel
theorem d4_117 : decode prog_36_method_5_code 117 = .ok (.getfield 57, 3) := by decide +kernel
theorem d4_120 : decode prog_36_method_5_code 120 = .ok (.lshl, 1) := by decide +kernel
theorem d4_121 : decode prog_36_method_5_code 121 = .ok (.lor, 1) := by decide +kernel
theorem d4_122 : decode prog_36_method_5_code 122 = .ok (.lstore_n 3, 1) := by decide +kernel
theorem d4_123 : decode prog_36_method_5_code 123 = .ok (.aload_n 0, 1) := by decide +kernel
theorem d4_124 : decode prog_36_method_5_code 124 = .ok (.getfield 13, 3) := by decide +kernel
theorem d4_127 : decode prog_36_method_5_code 127 = .ok (.ifCond .le 24, 3) := by decide +kernel
theorem d4_130 : decode prog_36_method_5_code 130 = .ok (.lload_n 3, 1) := by decide +kernel
theorem d4_131 : decode prog_36_method_5_code 131 = .ok (.aload_n 0, 1) := by decide +kernel
theorem d4_132 : decode prog_36_method_5_code 132 = .ok (.getfield 69, 3) := by decide +kernel
theorem d4_135 : decode prog_36_method_5_code 135 = .ok (.land, 1) := by decide +kernel
theorem d4_136 : decode prog_36_method_5_code 136 = .ok (.lstore 5, 2) := by decide +kernel
theorem d4_138 : decode prog_36_method_5_code 138 = .ok (.lload_n 3, 1) := by decide +kernel
theorem d4_139 : decode prog_36_method_5_code 139 = .ok (.lload 5, 2) := by decide +kernel
theorem d4_141 : decode prog_36_method_5_code 141 = .ok (.lxor, 1) := by decide +kernel
theorem d4_142 : decode prog_36_method_5_code 142 = .ok (.lload 5, 2) := by decide +kernel
theorem d4_144 : decode prog_36_method_5_code 144 = .ok (.aload_n 0, 1) := by decide +kernel
theorem d4_145 : decode prog_36_method_5_code 145 = .ok (.getfield 54, 3) := by decide +kernel
theorem d4_148 : decode prog_36_method_5_code 148 = .ok (.lshl, 1) := by decide +kernel
theorem d4_149 : decode prog_36_method_5_code 149 = .ok (.lor, 1) := by decide +kernel
theorem d4_150 : decode prog_36_method_5_code 150 = .ok (.lstore_n 3, 1) := by decide +kernel
theorem d4_151 : decode prog_36_method_5_code 151 = .ok (.lload_n 3, 1) := by decide +kernel
theorem d4_152 : decode prog_36_method_5_code 152 = .ok (.aload_n 0, 1) := by decide +kernel
theorem d4_153 : decode prog_36_method_5_code 153 = .ok (.getfield 23, 3) := by decide +kernel
theorem d4_156 : decode prog_36_method_5_code 156 = .ok (.lshl, 1) := by decide +kernel
theorem d4_157 : decode prog_36_method_5_code 157 = .ok (.lreturn, 1) := by decide +kernel
theorem pn_4 : plainFor (⟨"com/example/nimble_bloom/nimblebloom/filter/WordMask", "spread", "(J)J"⟩ : MethodName) = true := plainFor_of_name (by first | (simp [plainName, overriddenIn]; done) | decide +kernel)
theorem ef_conG (m : MethodId) (a1 : Addr) (bt : Int64) : entryFrame m #[(.ref a1), (.long bt)] 7 = mkF m 0 #[.val (.ref a1), .val (.long bt), .second, .unset, .unset, .unset, .unset] [] := by first | (simp [entryFrame, mkF, argsToLocals, Value.category]; done) | rfl
set_option maxRecDepth 65536 in
set_option maxHeartbeats 4000000 in
theorem conG (l : Launch) (Z : State) (a0 : Array Value) (hw : ∀ d ∈ tables_1, d.before a0 Z = true) (a1 : Addr) (bt : Int64) (h0 : Heap) (sn wn pn nn : Nat) (hw1 : 1 ≤ wn) (hp : wn ≤ pn) (hsp : (nn - 1) * pn + wn ≤ 64) (st : Int32) (hS : st.toBitVec.toNat % 64 = sn) (R : Nat) (rI : Int32) (hRI : rI.toInt = (R : Int)) (rn lo : Int64) (m0 m1 m2 m3 m4 u0 u1 u2 u3 u4 : Int64) (d0 d1 d2 d3 d4 : Int32) (hWM : own_WM wn pn nn R rn lo (own_5 m0 m1 m2 m3 m4) (own_5 u0 u1 u2 u3 u4) (own_5 d0 d1 d2 d3 d4)) (F_start : Fld Z h0 a1 "com/example/nimble_bloom/nimblebloom/filter/WordMask" "start" "I" (.int st)) (F_low : Fld Z h0 a1 "com/example/nimble_bloom/nimblebloom/filter/WordMask" "low" "J" (.long lo)) (F_rounds : Fld Z h0 a1 "com/example/nimble_bloom/nimblebloom/filter/WordMask" "rounds" "I" (.int rI)) (F_u0 : Fld Z h0 a1 "com/example/nimble_bloom/nimblebloom/filter/WordMask" "moved0" "J" (.long u0)) (F_d0 : Fld Z h0 a1 "com/example/nimble_bloom/nimblebloom/filter/WordMask" "distance0" "I" (.int d0)) (F_u1 : Fld Z h0 a1 "com/example/nimble_bloom/nimblebloom/filter/WordMask" "moved1" "J" (.long u1)) (F_d1 : Fld Z h0 a1 "com/example/nimble_bloom/nimblebloom/filter/WordMask" "distance1" "I" (.int d1)) (F_u2 : Fld Z h0 a1 "com/example/nimble_bloom/nimblebloom/filter/WordMask" "moved2" "J" (.long u2)) (F_d2 : Fld Z h0 a1 "com/example/nimble_bloom/nimblebloom/filter/WordMask" "distance2" "I" (.int d2)) (F_u3 : Fld Z h0 a1 "com/example/nimble_bloom/nimblebloom/filter/WordMask" "moved3" "J" (.long u3)) (F_d3 : Fld Z h0 a1 "com/example/nimble_bloom/nimblebloom/filter/WordMask" "distance3" "I" (.int d3)) (F_u4 : Fld Z h0 a1 "com/example/nimble_bloom/nimblebloom/filter/WordMask" "moved4" "J" (.long u4)) (F_d4 : Fld Z h0 a1 "com/example/nimble_bloom/nimblebloom/filter/WordMask" "distance4" "I" (.int d4)) :
    own_Con l Z (⟨"com/example/nimble_bloom/nimblebloom/filter/WordMask", "spread", "(J)J"⟩ : MethodName) prog_36_method_5_code 7 (some .long) ({ frames := 0, cells := 0, slots := 0, locals := 0 } : Room) #[(.ref a1), (.long bt)] h0 (fun v h L => ∃ z : Int64, v = some (.long z) ∧ (∀ q, q < 64 → own_bit z q = (decide (sn ≤ q) && (decide ((q - sn) / pn < nn) && (decide ((q - sn) % pn < wn) && own_bit bt ((q - sn) / pn * wn + (q - sn) % pn))))) ∧ L = [] ∧ h = h0) := by
  refine own_Con_of pn_4 ?_
  intro p e s m below meth c s₁ X0 hx hby hml hret hlk hnm hown hZ e0
  have hown : s.vm.findClass "com/example/nimble_bloom/nimblebloom/filter/WordMask" = some m.cls := hown
  have hml : c.maxLocals = 7 := hml
  show own_WP _ _ _ _ _ _ _ (s₁.setTop (entryFrame m #[(.ref a1), (.long bt)] 7))
  rw [ef_conG m a1 bt]
  obtain ⟨hRP, -, hlo, hr⟩ := hWM
  have hg : pn = wn + (pn - wn) := by omega
  have hR6 : R = 0 ∨ R = 1 ∨ R = 2 ∨ R = 3 ∨ R = 4 ∨ R = 5 := by have := hRP.1; omega
  rcases hR6 with rfl | rfl | rfl | rfl | rfl | rfl
  · obtain rfl : rI = (0 : Int32) := Int32.toInt_inj.mp (hRI.trans (by decide))
    refine own_lloadN (pc' := 1) X0 hx (hb hby d4_0) rfl rfl ?_
    refine own_aloadN (pc' := 2) X0 hx (hb hby d4_1) rfl rfl rfl ?_
    refine own_getF (pc' := 5) X0 hx hZ hown (host := "") (Or.inl (own_w hw 26 rfl)) Via.refl e0 F_low (hb hby d4_2) rfl ?_
    intro T1 X1 e1
    refine own_land (pc' := 6) X1 hx (hb hby d4_5) rfl ?_
    obtain ⟨v2, hv2⟩ : ∃ z : Int64, z = (bt &&& lo) := ⟨_, rfl⟩
    refine own_lstoreN (pc' := 7) (l' := #[.val (.ref a1), .val (.long bt), .second, .val (.long v2), .second, .unset, .unset]) X1 hx (hb hby d4_6) hv2 rfl rfl ?_
    have ch0 := own_chL (bt := bt) hw1 hRP.2.1 hlo
    rw [← hv2] at ch0
    refine own_aloadN (pc' := 8) X1 hx (hb hby d4_7) rfl rfl rfl ?_
    refine own_getF (pc' := 11) X1 hx hZ hown (host := "") (Or.inl (own_w hw 15 rfl)) Via.refl e1 F_rounds (hb hby d4_8) rfl ?_
    intro T3 X3 e3
    refine own_iconst (pc' := 12) X3 hx (4 : Int32) (hb hby d4_11) rfl rfl ?_
    refine own_icmp_le (pt := 36) (pf := 15) X3 hx (hb hby d4_12) rfl (by decide) rfl (fun hc12 => ?_) (fun hc12 => absurd hc12 (by decide))
    refine own_aloadN (pc' := 37) X3 hx (hb hby d4_36) rfl rfl rfl ?_
    refine own_getF (pc' := 40) X3 hx hZ hown (host := "") (Or.inl (own_w hw 15 rfl)) Via.refl e3 F_rounds (hb hby d4_37) rfl ?_
    intro T4 X4 e4
    refine own_iconst (pc' := 41) X4 hx (3 : Int32) (hb hby d4_40) rfl rfl ?_
    refine own_icmp_le (pt := 65) (pf := 44) X4 hx (hb hby d4_41) rfl (by decide) rfl (fun hc41 => ?_) (fun hc41 => absurd hc41 (by decide))
    refine own_aloadN (pc' := 66) X4 hx (hb hby d4_65) rfl rfl rfl ?_
    refine own_getF (pc' := 69) X4 hx hZ hown (host := "") (Or.inl (own_w hw 15 rfl)) Via.refl e4 F_rounds (hb hby d4_66) rfl ?_
    intro T5 X5 e5
    refine own_iconst (pc' := 70) X5 hx (2 : Int32) (hb hby d4_69) rfl rfl ?_
    refine own_icmp_le (pt := 94) (pf := 73) X5 hx (hb hby d4_70) rfl (by decide) rfl (fun hc70 => ?_) (fun hc70 => absurd hc70 (by decide))
    refine own_aloadN (pc' := 95) X5 hx (hb hby d4_94) rfl rfl rfl ?_
    refine own_getF (pc' := 98) X5 hx hZ hown (host := "") (Or.inl (own_w hw 15 rfl)) Via.refl e5 F_rounds (hb hby d4_95) rfl ?_
    intro T6 X6 e6
    refine own_iconst (pc' := 99) X6 hx (1 : Int32) (hb hby d4_98) rfl rfl ?_
    refine own_icmp_le (pt := 123) (pf := 102) X6 hx (hb hby d4_99) rfl (by decide) rfl (fun hc99 => ?_) (fun hc99 => absurd hc99 (by decide))
    refine own_aloadN (pc' := 124) X6 hx (hb hby d4_123) rfl rfl rfl ?_
    refine own_getF (pc' := 127) X6 hx hZ hown (host := "") (Or.inl (own_w hw 15 rfl)) Via.refl e6 F_rounds (hb hby d4_124) rfl ?_
    intro T7 X7 e7
    refine own_if_le (pt := 151) (pf := 130) X7 hx (hb hby d4_127) rfl (by decide) rfl (fun hc127 => ?_) (fun hc127 => absurd hc127 (by decide))
    refine own_lloadN (pc' := 152) X7 hx (hb hby d4_151) rfl rfl ?_
    refine own_aloadN (pc' := 153) X7 hx (hb hby d4_152) rfl rfl rfl ?_
    refine own_getF (pc' := 156) X7 hx hZ hown (host := "") (Or.inl (own_w hw 18 rfl)) Via.refl e7 F_start (hb hby d4_153) rfl ?_
    intro T8 X8 e8
    refine own_lshl (pc' := 157) X8 hx (hb hby d4_156) rfl ?_
    refine own_retJ X8 hx hlk hret (hb hby d4_157) (by decide) (by decide) ?_
    exact ⟨_, rfl, fun q hq => own_spread (by omega) hS hp ch0 q hq, rfl, e8⟩
  · obtain rfl : rI = (1 : Int32) := Int32.toInt_inj.mp (hRI.trans (by decide))
    refine own_lloadN (pc' := 1) X0 hx (hb hby d4_0) rfl rfl ?_
    refine own_aloadN (pc' := 2) X0 hx (hb hby d4_1) rfl rfl rfl ?_
    refine own_getF (pc' := 5) X0 hx hZ hown (host := "") (Or.inl (own_w hw 26 rfl)) Via.refl e0 F_low (hb hby d4_2) rfl ?_
    intro T9 X9 e9
    refine own_land (pc' := 6) X9 hx (hb hby d4_5) rfl ?_
    obtain ⟨v10, hv10⟩ : ∃ z : Int64, z = (bt &&& lo) := ⟨_, rfl⟩
    refine own_lstoreN (pc' := 7) (l' := #[.val (.ref a1), .val (.long bt), .second, .val (.long v10), .second, .unset, .unset]) X9 hx (hb hby d4_6) hv10 rfl rfl ?_
    have ch1 := own_chL (bt := bt) hw1 hRP.2.1 hlo
    rw [← hv10] at ch1
    refine own_aloadN (pc' := 8) X9 hx (hb hby d4_7) rfl rfl rfl ?_
    refine own_getF (pc' := 11) X9 hx hZ hown (host := "") (Or.inl (own_w hw 15 rfl)) Via.refl e9 F_rounds (hb hby d4_8) rfl ?_
    intro T11 X11 e11
    refine own_iconst (pc' := 12) X11 hx (4 : Int32) (hb hby d4_11) rfl rfl ?_
    refine own_icmp_le (pt := 36) (pf := 15) X11 hx (hb hby d4_12) rfl (by decide) rfl (fun hc12 => ?_) (fun hc12 => absurd hc12 (by decide))
    refine own_aloadN (pc' := 37) X11 hx (hb hby d4_36) rfl rfl rfl ?_
    refine own_getF (pc' := 40) X11 hx hZ hown (host := "") (Or.inl (own_w hw 15 rfl)) Via.refl e11 F_rounds (hb hby d4_37) rfl ?_
    intro T12 X12 e12
    refine own_iconst (pc' := 41) X12 hx (3 : Int32) (hb hby d4_40) rfl rfl ?_
    refine own_icmp_le (pt := 65) (pf := 44) X12 hx (hb hby d4_41) rfl (by decide) rfl (fun hc41 => ?_) (fun hc41 => absurd hc41 (by decide))
    refine own_aloadN (pc' := 66) X12 hx (hb hby d4_65) rfl rfl rfl ?_
    refine own_getF (pc' := 69) X12 hx hZ hown (host := "") (Or.inl (own_w hw 15 rfl)) Via.refl e12 F_rounds (hb hby d4_66) rfl ?_
    intro T13 X13 e13
    refine own_iconst (pc' := 70) X13 hx (2 : Int32) (hb hby d4_69) rfl rfl ?_
    refine own_icmp_le (pt := 94) (pf := 73) X13 hx (hb hby d4_70) rfl (by decide) rfl (fun hc70 => ?_) (fun hc70 => absurd hc70 (by decide))
    refine own_aloadN (pc' := 95) X13 hx (hb hby d4_94) rfl rfl rfl ?_
    refine own_getF (pc' := 98) X13 hx hZ hown (host := "") (Or.inl (own_w hw 15 rfl)) Via.refl e13 F_rounds (hb hby d4_95) rfl ?_
    intro T14 X14 e14
    refine own_iconst (pc' := 99) X14 hx (1 : Int32) (hb hby d4_98) rfl rfl ?_
    refine own_icmp_le (pt := 123) (pf := 102) X14 hx (hb hby d4_99) rfl (by decide) rfl (fun hc99 => ?_) (fun hc99 => absurd hc99 (by decide))
    refine own_aloadN (pc' := 124) X14 hx (hb hby d4_123) rfl rfl rfl ?_
    refine own_getF (pc' := 127) X14 hx hZ hown (host := "") (Or.inl (own_w hw 15 rfl)) Via.refl e14 F_rounds (hb hby d4_124) rfl ?_
    intro T15 X15 e15
    refine own_if_le (pt := 151) (pf := 130) X15 hx (hb hby d4_127) rfl (by decide) rfl (fun hc127 => absurd (by decide) hc127) (fun hc127 => ?_)
    refine own_lloadN (pc' := 131) X15 hx (hb hby d4_130) rfl rfl ?_
    refine own_aloadN (pc' := 132) X15 hx (hb hby d4_131) rfl rfl rfl ?_
    refine own_getF (pc' := 135) X15 hx hZ hown (host := "") (Or.inl (own_w hw 49 rfl)) Via.refl e15 F_u0 (hb hby d4_132) rfl ?_
    intro T16 X16 e16
    refine own_land (pc' := 136) X16 hx (hb hby d4_135) rfl ?_
    obtain ⟨v17, hv17⟩ : ∃ z : Int64, z = (v10 &&& u0) := ⟨_, rfl⟩
    refine own_lstore (pc' := 138) (l' := #[.val (.ref a1), .val (.long bt), .second, .val (.long v10), .second, .val (.long v17), .second]) X16 hx (hb hby d4_136) hv17 rfl rfl ?_
    refine own_lloadN (pc' := 139) X16 hx (hb hby d4_138) rfl rfl ?_
    refine own_lload (pc' := 141) X16 hx (hb hby d4_139) rfl rfl ?_
    refine own_lxor (pc' := 142) X16 hx (hb hby d4_141) rfl ?_
    refine own_lload (pc' := 144) X16 hx (hb hby d4_142) rfl rfl ?_
    refine own_aloadN (pc' := 145) X16 hx (hb hby d4_144) rfl rfl rfl ?_
    refine own_getF (pc' := 148) X16 hx hZ hown (host := "") (Or.inl (own_w hw 39 rfl)) Via.refl e16 F_d0 (hb hby d4_145) rfl ?_
    intro T18 X18 e18
    refine own_lshl (pc' := 149) X18 hx (hb hby d4_148) rfl ?_
    refine own_lor (pc' := 150) X18 hx (hb hby d4_149) rfl ?_
    obtain ⟨v19, hv19⟩ : ∃ z : Int64, z = ((v10 ^^^ v17) ||| (v17 <<< (d0 &&& 0x3f).toInt64)) := ⟨_, rfl⟩
    refine own_lstoreN (pc' := 151) (l' := #[.val (.ref a1), .val (.long bt), .second, .val (.long v19), .second, .val (.long v17), .second]) X18 hx (hb hby d4_150) hv19 rfl rfl ?_
    have ch0 : own_Ch nn wn pn 0 (fun t j => own_bit bt (t * wn + j)) (own_bit v19) := own_sstep hg rfl (own_posB 0 hsp hp) ch1 (own_UpMv hg (hr 0 (by decide)).2.2 (hr 0 (by decide)).1 (hr 0 (by decide)).2.1) (fun x hx => by rw [hv19, hv17]; exact own_sr _ _ _ _ (hr 0 (by decide)).2.2 x hx) (own_bbig _)
    refine own_lloadN (pc' := 152) X18 hx (hb hby d4_151) rfl rfl ?_
    refine own_aloadN (pc' := 153) X18 hx (hb hby d4_152) rfl rfl rfl ?_
    refine own_getF (pc' := 156) X18 hx hZ hown (host := "") (Or.inl (own_w hw 18 rfl)) Via.refl e18 F_start (hb hby d4_153) rfl ?_
    intro T20 X20 e20
    refine own_lshl (pc' := 157) X20 hx (hb hby d4_156) rfl ?_
    refine own_retJ X20 hx hlk hret (hb hby d4_157) (by decide) (by decide) ?_
    exact ⟨_, rfl, fun q hq => own_spread (by omega) hS hp ch0 q hq, rfl, e20⟩
  · obtain rfl : rI = (2 : Int32) := Int32.toInt_inj.mp (hRI.trans (by decide))
    refine own_lloadN (pc' := 1) X0 hx (hb hby d4_0) rfl rfl ?_
    refine own_aloadN (pc' := 2) X0 hx (hb hby d4_1) rfl rfl rfl ?_
    refine own_getF (pc' := 5) X0 hx hZ hown (host := "") (Or.inl (own_w hw 26 rfl)) Via.refl e0 F_low (hb hby d4_2) rfl ?_
    intro T21 X21 e21
    refine own_land (pc' := 6) X21 hx (hb hby d4_5) rfl ?_
    obtain ⟨v22, hv22⟩ : ∃ z : Int64, z = (bt &&& lo) := ⟨_, rfl⟩
    refine own_lstoreN (pc' := 7) (l' := #[.val (.ref a1), .val (.long bt), .second, .val (.long v22), .second, .unset, .unset]) X21 hx (hb hby d4_6) hv22 rfl rfl ?_
    have ch2 := own_chL (bt := bt) hw1 hRP.2.1 hlo
    rw [← hv22] at ch2
    refine own_aloadN (pc' := 8) X21 hx (hb hby d4_7) rfl rfl rfl ?_
    refine own_getF (pc' := 11) X21 hx hZ hown (host := "") (Or.inl (own_w hw 15 rfl)) Via.refl e21 F_rounds (hb hby d4_8) rfl ?_
    intro T23 X23 e23
    refine own_iconst (pc' := 12) X23 hx (4 : Int32) (hb hby d4_11) rfl rfl ?_
    refine own_icmp_le (pt := 36) (pf := 15) X23 hx (hb hby d4_12) rfl (by decide) rfl (fun hc12 => ?_) (fun hc12 => absurd hc12 (by decide))
    refine own_aloadN (pc' := 37) X23 hx (hb hby d4_36) rfl rfl rfl ?_
    refine own_getF (pc' := 40) X23 hx hZ hown (host := "") (Or.inl (own_w hw 15 rfl)) Via.refl e23 F_rounds (hb hby d4_37) rfl ?_
    intro T24 X24 e24
    refine own_iconst (pc' := 41) X24 hx (3 : Int32) (hb hby d4_40) rfl rfl ?_
    refine own_icmp_le (pt := 65) (pf := 44) X24 hx (hb hby d4_41) rfl (by decide) rfl (fun hc41 => ?_) (fun hc41 => absurd hc41 (by decide))
    refine own_aloadN (pc' := 66) X24 hx (hb hby d4_65) rfl rfl rfl ?_
    refine own_getF (pc' := 69) X24 hx hZ hown (host := "") (Or.inl (own_w hw 15 rfl)) Via.refl e24 F_rounds (hb hby d4_66) rfl ?_
    intro T25 X25 e25
    refine own_iconst (pc' := 70) X25 hx (2 : Int32) (hb hby d4_69) rfl rfl ?_
    refine own_icmp_le (pt := 94) (pf := 73) X25 hx (hb hby d4_70) rfl (by decide) rfl (fun hc70 => ?_) (fun hc70 => absurd hc70 (by decide))
    refine own_aloadN (pc' := 95) X25 hx (hb hby d4_94) rfl rfl rfl ?_
    refine own_getF (pc' := 98) X25 hx hZ hown (host := "") (Or.inl (own_w hw 15 rfl)) Via.refl e25 F_rounds (hb hby d4_95) rfl ?_
    intro T26 X26 e26
    refine own_iconst (pc' := 99) X26 hx (1 : Int32) (hb hby d4_98) rfl rfl ?_
    refine own_icmp_le (pt := 123) (pf := 102) X26 hx (hb hby d4_99) rfl (by decide) rfl (fun hc99 => absurd (by decide) hc99) (fun hc99 => ?_)
    refine own_lloadN (pc' := 103) X26 hx (hb hby d4_102) rfl rfl ?_
    refine own_aloadN (pc' := 104) X26 hx (hb hby d4_103) rfl rfl rfl ?_
    refine own_getF (pc' := 107) X26 hx hZ hown (host := "") (Or.inl (own_w hw 51 rfl)) Via.refl e26 F_u1 (hb hby d4_104) rfl ?_
    intro T27 X27 e27
    refine own_land (pc' := 108) X27 hx (hb hby d4_107) rfl ?_
    obtain ⟨v28, hv28⟩ : ∃ z : Int64, z = (v22 &&& u1) := ⟨_, rfl⟩
    refine own_lstore (pc' := 110) (l' := #[.val (.ref a1), .val (.long bt), .second, .val (.long v22), .second, .val (.long v28), .second]) X27 hx (hb hby d4_108) hv28 rfl rfl ?_
    refine own_lloadN (pc' := 111) X27 hx (hb hby d4_110) rfl rfl ?_
    refine own_lload (pc' := 113) X27 hx (hb hby d4_111) rfl rfl ?_
    refine own_lxor (pc' := 114) X27 hx (hb hby d4_113) rfl ?_
    refine own_lload (pc' := 116) X27 hx (hb hby d4_114) rfl rfl ?_
    refine own_aloadN (pc' := 117) X27 hx (hb hby d4_116) rfl rfl rfl ?_
    refine own_getF (pc' := 120) X27 hx hZ hown (host := "") (Or.inl (own_w hw 41 rfl)) Via.refl e27 F_d1 (hb hby d4_117) rfl ?_
    intro T29 X29 e29
    refine own_lshl (pc' := 121) X29 hx (hb hby d4_120) rfl ?_
    refine own_lor (pc' := 122) X29 hx (hb hby d4_121) rfl ?_
    obtain ⟨v30, hv30⟩ : ∃ z : Int64, z = ((v22 ^^^ v28) ||| (v28 <<< (d1 &&& 0x3f).toInt64)) := ⟨_, rfl⟩
    refine own_lstoreN (pc' := 123) (l' := #[.val (.ref a1), .val (.long bt), .second, .val (.long v30), .second, .val (.long v28), .second]) X29 hx (hb hby d4_122) hv30 rfl rfl ?_
    have ch1 : own_Ch nn wn pn 1 (fun t j => own_bit bt (t * wn + j)) (own_bit v30) := own_sstep hg rfl (own_posB 1 hsp hp) ch2 (own_UpMv hg (hr 1 (by decide)).2.2 (hr 1 (by decide)).1 (hr 1 (by decide)).2.1) (fun x hx => by rw [hv30, hv28]; exact own_sr _ _ _ _ (hr 1 (by decide)).2.2 x hx) (own_bbig _)
    refine own_aloadN (pc' := 124) X29 hx (hb hby d4_123) rfl rfl rfl ?_
    refine own_getF (pc' := 127) X29 hx hZ hown (host := "") (Or.inl (own_w hw 15 rfl)) Via.refl e29 F_rounds (hb hby d4_124) rfl ?_
    intro T31 X31 e31
    refine own_if_le (pt := 151) (pf := 130) X31 hx (hb hby d4_127) rfl (by decide) rfl (fun hc127 => absurd (by decide) hc127) (fun hc127 => ?_)
    refine own_lloadN (pc' := 131) X31 hx (hb hby d4_130) rfl rfl ?_
    refine own_aloadN (pc' := 132) X31 hx (hb hby d4_131) rfl rfl rfl ?_
    refine own_getF (pc' := 135) X31 hx hZ hown (host := "") (Or.inl (own_w hw 49 rfl)) Via.refl e31 F_u0 (hb hby d4_132) rfl ?_
    intro T32 X32 e32
    refine own_land (pc' := 136) X32 hx (hb hby d4_135) rfl ?_
    obtain ⟨v33, hv33⟩ : ∃ z : Int64, z = (v30 &&& u0) := ⟨_, rfl⟩
    refine own_lstore (pc' := 138) (l' := #[.val (.ref a1), .val (.long bt), .second, .val (.long v30), .second, .val (.long v33), .second]) X32 hx (hb hby d4_136) hv33 rfl rfl ?_
    refine own_lloadN (pc' := 139) X32 hx (hb hby d4_138) rfl rfl ?_
    refine own_lload (pc' := 141) X32 hx (hb hby d4_139) rfl rfl ?_
    refine own_lxor (pc' := 142) X32 hx (hb hby d4_141) rfl ?_
    refine own_lload (pc' := 144) X32 hx (hb hby d4_142) rfl rfl ?_
    refine own_aloadN (pc' := 145) X32 hx (hb hby d4_144) rfl rfl rfl ?_
    refine own_getF (pc' := 148) X32 hx hZ hown (host := "") (Or.inl (own_w hw 39 rfl)) Via.refl e32 F_d0 (hb hby d4_145) rfl ?_
    intro T34 X34 e34
    refine own_lshl (pc' := 149) X34 hx (hb hby d4_148) rfl ?_
    refine own_lor (pc' := 150) X34 hx (hb hby d4_149) rfl ?_
    obtain ⟨v35, hv35⟩ : ∃ z : Int64, z = ((v30 ^^^ v33) ||| (v33 <<< (d0 &&& 0x3f).toInt64)) := ⟨_, rfl⟩
    refine own_lstoreN (pc' := 151) (l' := #[.val (.ref a1), .val (.long bt), .second, .val (.long v35), .second, .val (.long v33), .second]) X34 hx (hb hby d4_150) hv35 rfl rfl ?_
    have ch0 : own_Ch nn wn pn 0 (fun t j => own_bit bt (t * wn + j)) (own_bit v35) := own_sstep hg rfl (own_posB 0 hsp hp) ch1 (own_UpMv hg (hr 0 (by decide)).2.2 (hr 0 (by decide)).1 (hr 0 (by decide)).2.1) (fun x hx => by rw [hv35, hv33]; exact own_sr _ _ _ _ (hr 0 (by decide)).2.2 x hx) (own_bbig _)
    refine own_lloadN (pc' := 152) X34 hx (hb hby d4_151) rfl rfl ?_
    refine own_aloadN (pc' := 153) X34 hx (hb hby d4_152) rfl rfl rfl ?_
    refine own_getF (pc' := 156) X34 hx hZ hown (host := "") (Or.inl (own_w hw 18 rfl)) Via.refl e34 F_start (hb hby d4_153) rfl ?_
    intro T36 X36 e36
    refine own_lshl (pc' := 157) X36 hx (hb hby d4_156) rfl ?_
    refine own_retJ X36 hx hlk hret (hb hby d4_157) (by decide) (by decide) ?_
    exact ⟨_, rfl, fun q hq => own_spread (by omega) hS hp ch0 q hq, rfl, e36⟩
  · obtain rfl : rI = (3 : Int32) := Int32.toInt_inj.mp (hRI.trans (by decide))
    refine own_lloadN (pc' := 1) X0 hx (hb hby d4_0) rfl rfl ?_
    refine own_aloadN (pc' := 2) X0 hx (hb hby d4_1) rfl rfl rfl ?_
    refine own_getF (pc' := 5) X0 hx hZ hown (host := "") (Or.inl (own_w hw 26 rfl)) Via.refl e0 F_low (hb hby d4_2) rfl ?_
    intro T37 X37 e37
    refine own_land (pc' := 6) X37 hx (hb hby d4_5) rfl ?_
    obtain ⟨v38, hv38⟩ : ∃ z : Int64, z = (bt &&& lo) := ⟨_, rfl⟩
    refine own_lstoreN (pc' := 7) (l' := #[.val (.ref a1), .val (.long bt), .second, .val (.long v38), .second, .unset, .unset]) X37 hx (hb hby d4_6) hv38 rfl rfl ?_
    have ch3 := own_chL (bt := bt) hw1 hRP.2.1 hlo
    rw [← hv38] at ch3
    refine own_aloadN (pc' := 8) X37 hx (hb hby d4_7) rfl rfl rfl ?_
    refine own_getF (pc' := 11) X37 hx hZ hown (host := "") (Or.inl (own_w hw 15 rfl)) Via.refl e37 F_rounds (hb hby d4_8) rfl ?_
    intro T39 X39 e39
    refine own_iconst (pc' := 12) X39 hx (4 : Int32) (hb hby d4_11) rfl rfl ?_
    refine own_icmp_le (pt := 36) (pf := 15) X39 hx (hb hby d4_12) rfl (by decide) rfl (fun hc12 => ?_) (fun hc12 => absurd hc12 (by decide))
    refine own_aloadN (pc' := 37) X39 hx (hb hby d4_36) rfl rfl rfl ?_
    refine own_getF (pc' := 40) X39 hx hZ hown (host := "") (Or.inl (own_w hw 15 rfl)) Via.refl e39 F_rounds (hb hby d4_37) rfl ?_
    intro T40 X40 e40
    refine own_iconst (pc' := 41) X40 hx (3 : Int32) (hb hby d4_40) rfl rfl ?_
    refine own_icmp_le (pt := 65) (pf := 44) X40 hx (hb hby d4_41) rfl (by decide) rfl (fun hc41 => ?_) (fun hc41 => absurd hc41 (by decide))
    refine own_aloadN (pc' := 66) X40 hx (hb hby d4_65) rfl rfl rfl ?_
    refine own_getF (pc' := 69) X40 hx hZ hown (host := "") (Or.inl (own_w hw 15 rfl)) Via.refl e40 F_rounds (hb hby d4_66) rfl ?_
    intro T41 X41 e41
    refine own_iconst (pc' := 70) X41 hx (2 : Int32) (hb hby d4_69) rfl rfl ?_
    refine own_icmp_le (pt := 94) (pf := 73) X41 hx (hb hby d4_70) rfl (by decide) rfl (fun hc70 => absurd (by decide) hc70) (fun hc70 => ?_)
    refine own_lloadN (pc' := 74) X41 hx (hb hby d4_73) rfl rfl ?_
    refine own_aloadN (pc' := 75) X41 hx (hb hby d4_74) rfl rfl rfl ?_
    refine own_getF (pc' := 78) X41 hx hZ hown (host := "") (Or.inl (own_w hw 53 rfl)) Via.refl e41 F_u2 (hb hby d4_75) rfl ?_
    intro T42 X42 e42
    refine own_land (pc' := 79) X42 hx (hb hby d4_78) rfl ?_
    obtain ⟨v43, hv43⟩ : ∃ z : Int64, z = (v38 &&& u2) := ⟨_, rfl⟩
    refine own_lstore (pc' := 81) (l' := #[.val (.ref a1), .val (.long bt), .second, .val (.long v38), .second, .val (.long v43), .second]) X42 hx (hb hby d4_79) hv43 rfl rfl ?_
    refine own_lloadN (pc' := 82) X42 hx (hb hby d4_81) rfl rfl ?_
    refine own_lload (pc' := 84) X42 hx (hb hby d4_82) rfl rfl ?_
    refine own_lxor (pc' := 85) X42 hx (hb hby d4_84) rfl ?_
    refine own_lload (pc' := 87) X42 hx (hb hby d4_85) rfl rfl ?_
    refine own_aloadN (pc' := 88) X42 hx (hb hby d4_87) rfl rfl rfl ?_
    refine own_getF (pc' := 91) X42 hx hZ hown (host := "") (Or.inl (own_w hw 43 rfl)) Via.refl e42 F_d2 (hb hby d4_88) rfl ?_
    intro T44 X44 e44
    refine own_lshl (pc' := 92) X44 hx (hb hby d4_91) rfl ?_
    refine own_lor (pc' := 93) X44 hx (hb hby d4_92) rfl ?_
    obtain ⟨v45, hv45⟩ : ∃ z : Int64, z = ((v38 ^^^ v43) ||| (v43 <<< (d2 &&& 0x3f).toInt64)) := ⟨_, rfl⟩
    refine own_lstoreN (pc' := 94) (l' := #[.val (.ref a1), .val (.long bt), .second, .val (.long v45), .second, .val (.long v43), .second]) X44 hx (hb hby d4_93) hv45 rfl rfl ?_
    have ch2 : own_Ch nn wn pn 2 (fun t j => own_bit bt (t * wn + j)) (own_bit v45) := own_sstep hg rfl (own_posB 2 hsp hp) ch3 (own_UpMv hg (hr 2 (by decide)).2.2 (hr 2 (by decide)).1 (hr 2 (by decide)).2.1) (fun x hx => by rw [hv45, hv43]; exact own_sr _ _ _ _ (hr 2 (by decide)).2.2 x hx) (own_bbig _)
    refine own_aloadN (pc' := 95) X44 hx (hb hby d4_94) rfl rfl rfl ?_
    refine own_getF (pc' := 98) X44 hx hZ hown (host := "") (Or.inl (own_w hw 15 rfl)) Via.refl e44 F_rounds (hb hby d4_95) rfl ?_
    intro T46 X46 e46
    refine own_iconst (pc' := 99) X46 hx (1 : Int32) (hb hby d4_98) rfl rfl ?_
    refine own_icmp_le (pt := 123) (pf := 102) X46 hx (hb hby d4_99) rfl (by decide) rfl (fun hc99 => absurd (by decide) hc99) (fun hc99 => ?_)
    refine own_lloadN (pc' := 103) X46 hx (hb hby d4_102) rfl rfl ?_
    refine own_aloadN (pc' := 104) X46 hx (hb hby d4_103) rfl rfl rfl ?_
    refine own_getF (pc' := 107) X46 hx hZ hown (host := "") (Or.inl (own_w hw 51 rfl)) Via.refl e46 F_u1 (hb hby d4_104) rfl ?_
    intro T47 X47 e47
    refine own_land (pc' := 108) X47 hx (hb hby d4_107) rfl ?_
    obtain ⟨v48, hv48⟩ : ∃ z : Int64, z = (v45 &&& u1) := ⟨_, rfl⟩
    refine own_lstore (pc' := 110) (l' := #[.val (.ref a1), .val (.long bt), .second, .val (.long v45), .second, .val (.long v48), .second]) X47 hx (hb hby d4_108) hv48 rfl rfl ?_
    refine own_lloadN (pc' := 111) X47 hx (hb hby d4_110) rfl rfl ?_
    refine own_lload (pc' := 113) X47 hx (hb hby d4_111) rfl rfl ?_
    refine own_lxor (pc' := 114) X47 hx (hb hby d4_113) rfl ?_
    refine own_lload (pc' := 116) X47 hx (hb hby d4_114) rfl rfl ?_
    refine own_aloadN (pc' := 117) X47 hx (hb hby d4_116) rfl rfl rfl ?_
    refine own_getF (pc' := 120) X47 hx hZ hown (host := "") (Or.inl (own_w hw 41 rfl)) Via.refl e47 F_d1 (hb hby d4_117) rfl ?_
    intro T49 X49 e49
    refine own_lshl (pc' := 121) X49 hx (hb hby d4_120) rfl ?_
    refine own_lor (pc' := 122) X49 hx (hb hby d4_121) rfl ?_
    obtain ⟨v50, hv50⟩ : ∃ z : Int64, z = ((v45 ^^^ v48) ||| (v48 <<< (d1 &&& 0x3f).toInt64)) := ⟨_, rfl⟩
    refine own_lstoreN (pc' := 123) (l' := #[.val (.ref a1), .val (.long bt), .second, .val (.long v50), .second, .val (.long v48), .second]) X49 hx (hb hby d4_122) hv50 rfl rfl ?_
    have ch1 : own_Ch nn wn pn 1 (fun t j => own_bit bt (t * wn + j)) (own_bit v50) := own_sstep hg rfl (own_posB 1 hsp hp) ch2 (own_UpMv hg (hr 1 (by decide)).2.2 (hr 1 (by decide)).1 (hr 1 (by decide)).2.1) (fun x hx => by rw [hv50, hv48]; exact own_sr _ _ _ _ (hr 1 (by decide)).2.2 x hx) (own_bbig _)
    refine own_aloadN (pc' := 124) X49 hx (hb hby d4_123) rfl rfl rfl ?_
    refine own_getF (pc' := 127) X49 hx hZ hown (host := "") (Or.inl (own_w hw 15 rfl)) Via.refl e49 F_rounds (hb hby d4_124) rfl ?_
    intro T51 X51 e51
    refine own_if_le (pt := 151) (pf := 130) X51 hx (hb hby d4_127) rfl (by decide) rfl (fun hc127 => absurd (by decide) hc127) (fun hc127 => ?_)
    refine own_lloadN (pc' := 131) X51 hx (hb hby d4_130) rfl rfl ?_
    refine own_aloadN (pc' := 132) X51 hx (hb hby d4_131) rfl rfl rfl ?_
    refine own_getF (pc' := 135) X51 hx hZ hown (host := "") (Or.inl (own_w hw 49 rfl)) Via.refl e51 F_u0 (hb hby d4_132) rfl ?_
    intro T52 X52 e52
    refine own_land (pc' := 136) X52 hx (hb hby d4_135) rfl ?_
    obtain ⟨v53, hv53⟩ : ∃ z : Int64, z = (v50 &&& u0) := ⟨_, rfl⟩
    refine own_lstore (pc' := 138) (l' := #[.val (.ref a1), .val (.long bt), .second, .val (.long v50), .second, .val (.long v53), .second]) X52 hx (hb hby d4_136) hv53 rfl rfl ?_
    refine own_lloadN (pc' := 139) X52 hx (hb hby d4_138) rfl rfl ?_
    refine own_lload (pc' := 141) X52 hx (hb hby d4_139) rfl rfl ?_
    refine own_lxor (pc' := 142) X52 hx (hb hby d4_141) rfl ?_
    refine own_lload (pc' := 144) X52 hx (hb hby d4_142) rfl rfl ?_
    refine own_aloadN (pc' := 145) X52 hx (hb hby d4_144) rfl rfl rfl ?_
    refine own_getF (pc' := 148) X52 hx hZ hown (host := "") (Or.inl (own_w hw 39 rfl)) Via.refl e52 F_d0 (hb hby d4_145) rfl ?_
    intro T54 X54 e54
    refine own_lshl (pc' := 149) X54 hx (hb hby d4_148) rfl ?_
    refine own_lor (pc' := 150) X54 hx (hb hby d4_149) rfl ?_
    obtain ⟨v55, hv55⟩ : ∃ z : Int64, z = ((v50 ^^^ v53) ||| (v53 <<< (d0 &&& 0x3f).toInt64)) := ⟨_, rfl⟩
    refine own_lstoreN (pc' := 151) (l' := #[.val (.ref a1), .val (.long bt), .second, .val (.long v55), .second, .val (.long v53), .second]) X54 hx (hb hby d4_150) hv55 rfl rfl ?_
    have ch0 : own_Ch nn wn pn 0 (fun t j => own_bit bt (t * wn + j)) (own_bit v55) := own_sstep hg rfl (own_posB 0 hsp hp) ch1 (own_UpMv hg (hr 0 (by decide)).2.2 (hr 0 (by decide)).1 (hr 0 (by decide)).2.1) (fun x hx => by rw [hv55, hv53]; exact own_sr _ _ _ _ (hr 0 (by decide)).2.2 x hx) (own_bbig _)
    refine own_lloadN (pc' := 152) X54 hx (hb hby d4_151) rfl rfl ?_
    refine own_aloadN (pc' := 153) X54 hx (hb hby d4_152) rfl rfl rfl ?_
    refine own_getF (pc' := 156) X54 hx hZ hown (host := "") (Or.inl (own_w hw 18 rfl)) Via.refl e54 F_start (hb hby d4_153) rfl ?_
    intro T56 X56 e56
    refine own_lshl (pc' := 157) X56 hx (hb hby d4_156) rfl ?_
    refine own_retJ X56 hx hlk hret (hb hby d4_157) (by decide) (by decide) ?_
    exact ⟨_, rfl, fun q hq => own_spread (by omega) hS hp ch0 q hq, rfl, e56⟩
  · obtain rfl : rI = (4 : Int32) := Int32.toInt_inj.mp (hRI.trans (by decide))
    refine own_lloadN (pc' := 1) X0 hx (hb hby d4_0) rfl rfl ?_
    refine own_aloadN (pc' := 2) X0 hx (hb hby d4_1) rfl rfl rfl ?_
    refine own_getF (pc' := 5) X0 hx hZ hown (host := "") (Or.inl (own_w hw 26 rfl)) Via.refl e0 F_low (hb hby d4_2) rfl ?_
    intro T57 X57 e57
    refine own_land (pc' := 6) X57 hx (hb hby d4_5) rfl ?_
    obtain ⟨v58, hv58⟩ : ∃ z : Int64, z = (bt &&& lo) := ⟨_, rfl⟩
    refine own_lstoreN (pc' := 7) (l' := #[.val (.ref a1), .val (.long bt), .second, .val (.long v58), .second, .unset, .unset]) X57 hx (hb hby d4_6) hv58 rfl rfl ?_
    have ch4 := own_chL (bt := bt) hw1 hRP.2.1 hlo
    rw [← hv58] at ch4
    refine own_aloadN (pc' := 8) X57 hx (hb hby d4_7) rfl rfl rfl ?_
    refine own_getF (pc' := 11) X57 hx hZ hown (host := "") (Or.inl (own_w hw 15 rfl)) Via.refl e57 F_rounds (hb hby d4_8) rfl ?_
    intro T59 X59 e59
    refine own_iconst (pc' := 12) X59 hx (4 : Int32) (hb hby d4_11) rfl rfl ?_
    refine own_icmp_le (pt := 36) (pf := 15) X59 hx (hb hby d4_12) rfl (by decide) rfl (fun hc12 => ?_) (fun hc12 => absurd hc12 (by decide))
    refine own_aloadN (pc' := 37) X59 hx (hb hby d4_36) rfl rfl rfl ?_
    refine own_getF (pc' := 40) X59 hx hZ hown (host := "") (Or.inl (own_w hw 15 rfl)) Via.refl e59 F_rounds (hb hby d4_37) rfl ?_
    intro T60 X60 e60
    refine own_iconst (pc' := 41) X60 hx (3 : Int32) (hb hby d4_40) rfl rfl ?_
    refine own_icmp_le (pt := 65) (pf := 44) X60 hx (hb hby d4_41) rfl (by decide) rfl (fun hc41 => absurd (by decide) hc41) (fun hc41 => ?_)
    refine own_lloadN (pc' := 45) X60 hx (hb hby d4_44) rfl rfl ?_
    refine own_aloadN (pc' := 46) X60 hx (hb hby d4_45) rfl rfl rfl ?_
    refine own_getF (pc' := 49) X60 hx hZ hown (host := "") (Or.inl (own_w hw 55 rfl)) Via.refl e60 F_u3 (hb hby d4_46) rfl ?_
    intro T61 X61 e61
    refine own_land (pc' := 50) X61 hx (hb hby d4_49) rfl ?_
    obtain ⟨v62, hv62⟩ : ∃ z : Int64, z = (v58 &&& u3) := ⟨_, rfl⟩
    refine own_lstore (pc' := 52) (l' := #[.val (.ref a1), .val (.long bt), .second, .val (.long v58), .second, .val (.long v62), .second]) X61 hx (hb hby d4_50) hv62 rfl rfl ?_
    refine own_lloadN (pc' := 53) X61 hx (hb hby d4_52) rfl rfl ?_
    refine own_lload (pc' := 55) X61 hx (hb hby d4_53) rfl rfl ?_
    refine own_lxor (pc' := 56) X61 hx (hb hby d4_55) rfl ?_
    refine own_lload (pc' := 58) X61 hx (hb hby d4_56) rfl rfl ?_
    refine own_aloadN (pc' := 59) X61 hx (hb hby d4_58) rfl rfl rfl ?_
    refine own_getF (pc' := 62) X61 hx hZ hown (host := "") (Or.inl (own_w hw 45 rfl)) Via.refl e61 F_d3 (hb hby d4_59) rfl ?_
    intro T63 X63 e63
    refine own_lshl (pc' := 63) X63 hx (hb hby d4_62) rfl ?_
    refine own_lor (pc' := 64) X63 hx (hb hby d4_63) rfl ?_
    obtain ⟨v64, hv64⟩ : ∃ z : Int64, z = ((v58 ^^^ v62) ||| (v62 <<< (d3 &&& 0x3f).toInt64)) := ⟨_, rfl⟩
    refine own_lstoreN (pc' := 65) (l' := #[.val (.ref a1), .val (.long bt), .second, .val (.long v64), .second, .val (.long v62), .second]) X63 hx (hb hby d4_64) hv64 rfl rfl ?_
    have ch3 : own_Ch nn wn pn 3 (fun t j => own_bit bt (t * wn + j)) (own_bit v64) := own_sstep hg rfl (own_posB 3 hsp hp) ch4 (own_UpMv hg (hr 3 (by decide)).2.2 (hr 3 (by decide)).1 (hr 3 (by decide)).2.1) (fun x hx => by rw [hv64, hv62]; exact own_sr _ _ _ _ (hr 3 (by decide)).2.2 x hx) (own_bbig _)
    refine own_aloadN (pc' := 66) X63 hx (hb hby d4_65) rfl rfl rfl ?_
    refine own_getF (pc' := 69) X63 hx hZ hown (host := "") (Or.inl (own_w hw 15 rfl)) Via.refl e63 F_rounds (hb hby d4_66) rfl ?_
    intro T65 X65 e65
    refine own_iconst (pc' := 70) X65 hx (2 : Int32) (hb hby d4_69) rfl rfl ?_
    refine own_icmp_le (pt := 94) (pf := 73) X65 hx (hb hby d4_70) rfl (by decide) rfl (fun hc70 => absurd (by decide) hc70) (fun hc70 => ?_)
    refine own_lloadN (pc' := 74) X65 hx (hb hby d4_73) rfl rfl ?_
    refine own_aloadN (pc' := 75) X65 hx (hb hby d4_74) rfl rfl rfl ?_
    refine own_getF (pc' := 78) X65 hx hZ hown (host := "") (Or.inl (own_w hw 53 rfl)) Via.refl e65 F_u2 (hb hby d4_75) rfl ?_
    intro T66 X66 e66
    refine own_land (pc' := 79) X66 hx (hb hby d4_78) rfl ?_
    obtain ⟨v67, hv67⟩ : ∃ z : Int64, z = (v64 &&& u2) := ⟨_, rfl⟩
    refine own_lstore (pc' := 81) (l' := #[.val (.ref a1), .val (.long bt), .second, .val (.long v64), .second, .val (.long v67), .second]) X66 hx (hb hby d4_79) hv67 rfl rfl ?_
    refine own_lloadN (pc' := 82) X66 hx (hb hby d4_81) rfl rfl ?_
    refine own_lload (pc' := 84) X66 hx (hb hby d4_82) rfl rfl ?_
    refine own_lxor (pc' := 85) X66 hx (hb hby d4_84) rfl ?_
    refine own_lload (pc' := 87) X66 hx (hb hby d4_85) rfl rfl ?_
    refine own_aloadN (pc' := 88) X66 hx (hb hby d4_87) rfl rfl rfl ?_
    refine own_getF (pc' := 91) X66 hx hZ hown (host := "") (Or.inl (own_w hw 43 rfl)) Via.refl e66 F_d2 (hb hby d4_88) rfl ?_
    intro T68 X68 e68
    refine own_lshl (pc' := 92) X68 hx (hb hby d4_91) rfl ?_
    refine own_lor (pc' := 93) X68 hx (hb hby d4_92) rfl ?_
    obtain ⟨v69, hv69⟩ : ∃ z : Int64, z = ((v64 ^^^ v67) ||| (v67 <<< (d2 &&& 0x3f).toInt64)) := ⟨_, rfl⟩
    refine own_lstoreN (pc' := 94) (l' := #[.val (.ref a1), .val (.long bt), .second, .val (.long v69), .second, .val (.long v67), .second]) X68 hx (hb hby d4_93) hv69 rfl rfl ?_
    have ch2 : own_Ch nn wn pn 2 (fun t j => own_bit bt (t * wn + j)) (own_bit v69) := own_sstep hg rfl (own_posB 2 hsp hp) ch3 (own_UpMv hg (hr 2 (by decide)).2.2 (hr 2 (by decide)).1 (hr 2 (by decide)).2.1) (fun x hx => by rw [hv69, hv67]; exact own_sr _ _ _ _ (hr 2 (by decide)).2.2 x hx) (own_bbig _)
    refine own_aloadN (pc' := 95) X68 hx (hb hby d4_94) rfl rfl rfl ?_
    refine own_getF (pc' := 98) X68 hx hZ hown (host := "") (Or.inl (own_w hw 15 rfl)) Via.refl e68 F_rounds (hb hby d4_95) rfl ?_
    intro T70 X70 e70
    refine own_iconst (pc' := 99) X70 hx (1 : Int32) (hb hby d4_98) rfl rfl ?_
    refine own_icmp_le (pt := 123) (pf := 102) X70 hx (hb hby d4_99) rfl (by decide) rfl (fun hc99 => absurd (by decide) hc99) (fun hc99 => ?_)
    refine own_lloadN (pc' := 103) X70 hx (hb hby d4_102) rfl rfl ?_
    refine own_aloadN (pc' := 104) X70 hx (hb hby d4_103) rfl rfl rfl ?_
    refine own_getF (pc' := 107) X70 hx hZ hown (host := "") (Or.inl (own_w hw 51 rfl)) Via.refl e70 F_u1 (hb hby d4_104) rfl ?_
    intro T71 X71 e71
    refine own_land (pc' := 108) X71 hx (hb hby d4_107) rfl ?_
    obtain ⟨v72, hv72⟩ : ∃ z : Int64, z = (v69 &&& u1) := ⟨_, rfl⟩
    refine own_lstore (pc' := 110) (l' := #[.val (.ref a1), .val (.long bt), .second, .val (.long v69), .second, .val (.long v72), .second]) X71 hx (hb hby d4_108) hv72 rfl rfl ?_
    refine own_lloadN (pc' := 111) X71 hx (hb hby d4_110) rfl rfl ?_
    refine own_lload (pc' := 113) X71 hx (hb hby d4_111) rfl rfl ?_
    refine own_lxor (pc' := 114) X71 hx (hb hby d4_113) rfl ?_
    refine own_lload (pc' := 116) X71 hx (hb hby d4_114) rfl rfl ?_
    refine own_aloadN (pc' := 117) X71 hx (hb hby d4_116) rfl rfl rfl ?_
    refine own_getF (pc' := 120) X71 hx hZ hown (host := "") (Or.inl (own_w hw 41 rfl)) Via.refl e71 F_d1 (hb hby d4_117) rfl ?_
    intro T73 X73 e73
    refine own_lshl (pc' := 121) X73 hx (hb hby d4_120) rfl ?_
    refine own_lor (pc' := 122) X73 hx (hb hby d4_121) rfl ?_
    obtain ⟨v74, hv74⟩ : ∃ z : Int64, z = ((v69 ^^^ v72) ||| (v72 <<< (d1 &&& 0x3f).toInt64)) := ⟨_, rfl⟩
    refine own_lstoreN (pc' := 123) (l' := #[.val (.ref a1), .val (.long bt), .second, .val (.long v74), .second, .val (.long v72), .second]) X73 hx (hb hby d4_122) hv74 rfl rfl ?_
    have ch1 : own_Ch nn wn pn 1 (fun t j => own_bit bt (t * wn + j)) (own_bit v74) := own_sstep hg rfl (own_posB 1 hsp hp) ch2 (own_UpMv hg (hr 1 (by decide)).2.2 (hr 1 (by decide)).1 (hr 1 (by decide)).2.1) (fun x hx => by rw [hv74, hv72]; exact own_sr _ _ _ _ (hr 1 (by decide)).2.2 x hx) (own_bbig _)
    refine own_aloadN (pc' := 124) X73 hx (hb hby d4_123) rfl rfl rfl ?_
    refine own_getF (pc' := 127) X73 hx hZ hown (host := "") (Or.inl (own_w hw 15 rfl)) Via.refl e73 F_rounds (hb hby d4_124) rfl ?_
    intro T75 X75 e75
    refine own_if_le (pt := 151) (pf := 130) X75 hx (hb hby d4_127) rfl (by decide) rfl (fun hc127 => absurd (by decide) hc127) (fun hc127 => ?_)
    refine own_lloadN (pc' := 131) X75 hx (hb hby d4_130) rfl rfl ?_
    refine own_aloadN (pc' := 132) X75 hx (hb hby d4_131) rfl rfl rfl ?_
    refine own_getF (pc' := 135) X75 hx hZ hown (host := "") (Or.inl (own_w hw 49 rfl)) Via.refl e75 F_u0 (hb hby d4_132) rfl ?_
    intro T76 X76 e76
    refine own_land (pc' := 136) X76 hx (hb hby d4_135) rfl ?_
    obtain ⟨v77, hv77⟩ : ∃ z : Int64, z = (v74 &&& u0) := ⟨_, rfl⟩
    refine own_lstore (pc' := 138) (l' := #[.val (.ref a1), .val (.long bt), .second, .val (.long v74), .second, .val (.long v77), .second]) X76 hx (hb hby d4_136) hv77 rfl rfl ?_
    refine own_lloadN (pc' := 139) X76 hx (hb hby d4_138) rfl rfl ?_
    refine own_lload (pc' := 141) X76 hx (hb hby d4_139) rfl rfl ?_
    refine own_lxor (pc' := 142) X76 hx (hb hby d4_141) rfl ?_
    refine own_lload (pc' := 144) X76 hx (hb hby d4_142) rfl rfl ?_
    refine own_aloadN (pc' := 145) X76 hx (hb hby d4_144) rfl rfl rfl ?_
    refine own_getF (pc' := 148) X76 hx hZ hown (host := "") (Or.inl (own_w hw 39 rfl)) Via.refl e76 F_d0 (hb hby d4_145) rfl ?_
    intro T78 X78 e78
    refine own_lshl (pc' := 149) X78 hx (hb hby d4_148) rfl ?_
    refine own_lor (pc' := 150) X78 hx (hb hby d4_149) rfl ?_
    obtain ⟨v79, hv79⟩ : ∃ z : Int64, z = ((v74 ^^^ v77) ||| (v77 <<< (d0 &&& 0x3f).toInt64)) := ⟨_, rfl⟩
    refine own_lstoreN (pc' := 151) (l' := #[.val (.ref a1), .val (.long bt), .second, .val (.long v79), .second, .val (.long v77), .second]) X78 hx (hb hby d4_150) hv79 rfl rfl ?_
    have ch0 : own_Ch nn wn pn 0 (fun t j => own_bit bt (t * wn + j)) (own_bit v79) := own_sstep hg rfl (own_posB 0 hsp hp) ch1 (own_UpMv hg (hr 0 (by decide)).2.2 (hr 0 (by decide)).1 (hr 0 (by decide)).2.1) (fun x hx => by rw [hv79, hv77]; exact own_sr _ _ _ _ (hr 0 (by decide)).2.2 x hx) (own_bbig _)
    refine own_lloadN (pc' := 152) X78 hx (hb hby d4_151) rfl rfl ?_
    refine own_aloadN (pc' := 153) X78 hx (hb hby d4_152) rfl rfl rfl ?_
    refine own_getF (pc' := 156) X78 hx hZ hown (host := "") (Or.inl (own_w hw 18 rfl)) Via.refl e78 F_start (hb hby d4_153) rfl ?_
    intro T80 X80 e80
    refine own_lshl (pc' := 157) X80 hx (hb hby d4_156) rfl ?_
    refine own_retJ X80 hx hlk hret (hb hby d4_157) (by decide) (by decide) ?_
    exact ⟨_, rfl, fun q hq => own_spread (by omega) hS hp ch0 q hq, rfl, e80⟩
  · obtain rfl : rI = (5 : Int32) := Int32.toInt_inj.mp (hRI.trans (by decide))
    refine own_lloadN (pc' := 1) X0 hx (hb hby d4_0) rfl rfl ?_
    refine own_aloadN (pc' := 2) X0 hx (hb hby d4_1) rfl rfl rfl ?_
    refine own_getF (pc' := 5) X0 hx hZ hown (host := "") (Or.inl (own_w hw 26 rfl)) Via.refl e0 F_low (hb hby d4_2) rfl ?_
    intro T81 X81 e81
    refine own_land (pc' := 6) X81 hx (hb hby d4_5) rfl ?_
    obtain ⟨v82, hv82⟩ : ∃ z : Int64, z = (bt &&& lo) := ⟨_, rfl⟩
    refine own_lstoreN (pc' := 7) (l' := #[.val (.ref a1), .val (.long bt), .second, .val (.long v82), .second, .unset, .unset]) X81 hx (hb hby d4_6) hv82 rfl rfl ?_
    have ch5 := own_chL (bt := bt) hw1 hRP.2.1 hlo
    rw [← hv82] at ch5
    refine own_aloadN (pc' := 8) X81 hx (hb hby d4_7) rfl rfl rfl ?_
    refine own_getF (pc' := 11) X81 hx hZ hown (host := "") (Or.inl (own_w hw 15 rfl)) Via.refl e81 F_rounds (hb hby d4_8) rfl ?_
    intro T83 X83 e83
    refine own_iconst (pc' := 12) X83 hx (4 : Int32) (hb hby d4_11) rfl rfl ?_
    refine own_icmp_le (pt := 36) (pf := 15) X83 hx (hb hby d4_12) rfl (by decide) rfl (fun hc12 => absurd (by decide) hc12) (fun hc12 => ?_)
    refine own_lloadN (pc' := 16) X83 hx (hb hby d4_15) rfl rfl ?_
    refine own_aloadN (pc' := 17) X83 hx (hb hby d4_16) rfl rfl rfl ?_
    refine own_getF (pc' := 20) X83 hx hZ hown (host := "") (Or.inl (own_w hw 57 rfl)) Via.refl e83 F_u4 (hb hby d4_17) rfl ?_
    intro T84 X84 e84
    refine own_land (pc' := 21) X84 hx (hb hby d4_20) rfl ?_
    obtain ⟨v85, hv85⟩ : ∃ z : Int64, z = (v82 &&& u4) := ⟨_, rfl⟩
    refine own_lstore (pc' := 23) (l' := #[.val (.ref a1), .val (.long bt), .second, .val (.long v82), .second, .val (.long v85), .second]) X84 hx (hb hby d4_21) hv85 rfl rfl ?_
    refine own_lloadN (pc' := 24) X84 hx (hb hby d4_23) rfl rfl ?_
    refine own_lload (pc' := 26) X84 hx (hb hby d4_24) rfl rfl ?_
    refine own_lxor (pc' := 27) X84 hx (hb hby d4_26) rfl ?_
    refine own_lload (pc' := 29) X84 hx (hb hby d4_27) rfl rfl ?_
    refine own_aloadN (pc' := 30) X84 hx (hb hby d4_29) rfl rfl rfl ?_
    refine own_getF (pc' := 33) X84 hx hZ hown (host := "") (Or.inl (own_w hw 47 rfl)) Via.refl e84 F_d4 (hb hby d4_30) rfl ?_
    intro T86 X86 e86
    refine own_lshl (pc' := 34) X86 hx (hb hby d4_33) rfl ?_
    refine own_lor (pc' := 35) X86 hx (hb hby d4_34) rfl ?_
    obtain ⟨v87, hv87⟩ : ∃ z : Int64, z = ((v82 ^^^ v85) ||| (v85 <<< (d4 &&& 0x3f).toInt64)) := ⟨_, rfl⟩
    refine own_lstoreN (pc' := 36) (l' := #[.val (.ref a1), .val (.long bt), .second, .val (.long v87), .second, .val (.long v85), .second]) X86 hx (hb hby d4_35) hv87 rfl rfl ?_
    have ch4 : own_Ch nn wn pn 4 (fun t j => own_bit bt (t * wn + j)) (own_bit v87) := own_sstep hg rfl (own_posB 4 hsp hp) ch5 (own_UpMv hg (hr 4 (by decide)).2.2 (hr 4 (by decide)).1 (hr 4 (by decide)).2.1) (fun x hx => by rw [hv87, hv85]; exact own_sr _ _ _ _ (hr 4 (by decide)).2.2 x hx) (own_bbig _)
    refine own_aloadN (pc' := 37) X86 hx (hb hby d4_36) rfl rfl rfl ?_
    refine own_getF (pc' := 40) X86 hx hZ hown (host := "") (Or.inl (own_w hw 15 rfl)) Via.refl e86 F_rounds (hb hby d4_37) rfl ?_
    intro T88 X88 e88
    refine own_iconst (pc' := 41) X88 hx (3 : Int32) (hb hby d4_40) rfl rfl ?_
    refine own_icmp_le (pt := 65) (pf := 44) X88 hx (hb hby d4_41) rfl (by decide) rfl (fun hc41 => absurd (by decide) hc41) (fun hc41 => ?_)
    refine own_lloadN (pc' := 45) X88 hx (hb hby d4_44) rfl rfl ?_
    refine own_aloadN (pc' := 46) X88 hx (hb hby d4_45) rfl rfl rfl ?_
    refine own_getF (pc' := 49) X88 hx hZ hown (host := "") (Or.inl (own_w hw 55 rfl)) Via.refl e88 F_u3 (hb hby d4_46) rfl ?_
    intro T89 X89 e89
    refine own_land (pc' := 50) X89 hx (hb hby d4_49) rfl ?_
    obtain ⟨v90, hv90⟩ : ∃ z : Int64, z = (v87 &&& u3) := ⟨_, rfl⟩
    refine own_lstore (pc' := 52) (l' := #[.val (.ref a1), .val (.long bt), .second, .val (.long v87), .second, .val (.long v90), .second]) X89 hx (hb hby d4_50) hv90 rfl rfl ?_
    refine own_lloadN (pc' := 53) X89 hx (hb hby d4_52) rfl rfl ?_
    refine own_lload (pc' := 55) X89 hx (hb hby d4_53) rfl rfl ?_
    refine own_lxor (pc' := 56) X89 hx (hb hby d4_55) rfl ?_
    refine own_lload (pc' := 58) X89 hx (hb hby d4_56) rfl rfl ?_
    refine own_aloadN (pc' := 59) X89 hx (hb hby d4_58) rfl rfl rfl ?_
    refine own_getF (pc' := 62) X89 hx hZ hown (host := "") (Or.inl (own_w hw 45 rfl)) Via.refl e89 F_d3 (hb hby d4_59) rfl ?_
    intro T91 X91 e91
    refine own_lshl (pc' := 63) X91 hx (hb hby d4_62) rfl ?_
    refine own_lor (pc' := 64) X91 hx (hb hby d4_63) rfl ?_
    obtain ⟨v92, hv92⟩ : ∃ z : Int64, z = ((v87 ^^^ v90) ||| (v90 <<< (d3 &&& 0x3f).toInt64)) := ⟨_, rfl⟩
    refine own_lstoreN (pc' := 65) (l' := #[.val (.ref a1), .val (.long bt), .second, .val (.long v92), .second, .val (.long v90), .second]) X91 hx (hb hby d4_64) hv92 rfl rfl ?_
    have ch3 : own_Ch nn wn pn 3 (fun t j => own_bit bt (t * wn + j)) (own_bit v92) := own_sstep hg rfl (own_posB 3 hsp hp) ch4 (own_UpMv hg (hr 3 (by decide)).2.2 (hr 3 (by decide)).1 (hr 3 (by decide)).2.1) (fun x hx => by rw [hv92, hv90]; exact own_sr _ _ _ _ (hr 3 (by decide)).2.2 x hx) (own_bbig _)
    refine own_aloadN (pc' := 66) X91 hx (hb hby d4_65) rfl rfl rfl ?_
    refine own_getF (pc' := 69) X91 hx hZ hown (host := "") (Or.inl (own_w hw 15 rfl)) Via.refl e91 F_rounds (hb hby d4_66) rfl ?_
    intro T93 X93 e93
    refine own_iconst (pc' := 70) X93 hx (2 : Int32) (hb hby d4_69) rfl rfl ?_
    refine own_icmp_le (pt := 94) (pf := 73) X93 hx (hb hby d4_70) rfl (by decide) rfl (fun hc70 => absurd (by decide) hc70) (fun hc70 => ?_)
    refine own_lloadN (pc' := 74) X93 hx (hb hby d4_73) rfl rfl ?_
    refine own_aloadN (pc' := 75) X93 hx (hb hby d4_74) rfl rfl rfl ?_
    refine own_getF (pc' := 78) X93 hx hZ hown (host := "") (Or.inl (own_w hw 53 rfl)) Via.refl e93 F_u2 (hb hby d4_75) rfl ?_
    intro T94 X94 e94
    refine own_land (pc' := 79) X94 hx (hb hby d4_78) rfl ?_
    obtain ⟨v95, hv95⟩ : ∃ z : Int64, z = (v92 &&& u2) := ⟨_, rfl⟩
    refine own_lstore (pc' := 81) (l' := #[.val (.ref a1), .val (.long bt), .second, .val (.long v92), .second, .val (.long v95), .second]) X94 hx (hb hby d4_79) hv95 rfl rfl ?_
    refine own_lloadN (pc' := 82) X94 hx (hb hby d4_81) rfl rfl ?_
    refine own_lload (pc' := 84) X94 hx (hb hby d4_82) rfl rfl ?_
    refine own_lxor (pc' := 85) X94 hx (hb hby d4_84) rfl ?_
    refine own_lload (pc' := 87) X94 hx (hb hby d4_85) rfl rfl ?_
    refine own_aloadN (pc' := 88) X94 hx (hb hby d4_87) rfl rfl rfl ?_
    refine own_getF (pc' := 91) X94 hx hZ hown (host := "") (Or.inl (own_w hw 43 rfl)) Via.refl e94 F_d2 (hb hby d4_88) rfl ?_
    intro T96 X96 e96
    refine own_lshl (pc' := 92) X96 hx (hb hby d4_91) rfl ?_
    refine own_lor (pc' := 93) X96 hx (hb hby d4_92) rfl ?_
    obtain ⟨v97, hv97⟩ : ∃ z : Int64, z = ((v92 ^^^ v95) ||| (v95 <<< (d2 &&& 0x3f).toInt64)) := ⟨_, rfl⟩
    refine own_lstoreN (pc' := 94) (l' := #[.val (.ref a1), .val (.long bt), .second, .val (.long v97), .second, .val (.long v95), .second]) X96 hx (hb hby d4_93) hv97 rfl rfl ?_
    have ch2 : own_Ch nn wn pn 2 (fun t j => own_bit bt (t * wn + j)) (own_bit v97) := own_sstep hg rfl (own_posB 2 hsp hp) ch3 (own_UpMv hg (hr 2 (by decide)).2.2 (hr 2 (by decide)).1 (hr 2 (by decide)).2.1) (fun x hx => by rw [hv97, hv95]; exact own_sr _ _ _ _ (hr 2 (by decide)).2.2 x hx) (own_bbig _)
    refine own_aloadN (pc' := 95) X96 hx (hb hby d4_94) rfl rfl rfl ?_
    refine own_getF (pc' := 98) X96 hx hZ hown (host := "") (Or.inl (own_w hw 15 rfl)) Via.refl e96 F_rounds (hb hby d4_95) rfl ?_
    intro T98 X98 e98
    refine own_iconst (pc' := 99) X98 hx (1 : Int32) (hb hby d4_98) rfl rfl ?_
    refine own_icmp_le (pt := 123) (pf := 102) X98 hx (hb hby d4_99) rfl (by decide) rfl (fun hc99 => absurd (by decide) hc99) (fun hc99 => ?_)
    refine own_lloadN (pc' := 103) X98 hx (hb hby d4_102) rfl rfl ?_
    refine own_aloadN (pc' := 104) X98 hx (hb hby d4_103) rfl rfl rfl ?_
    refine own_getF (pc' := 107) X98 hx hZ hown (host := "") (Or.inl (own_w hw 51 rfl)) Via.refl e98 F_u1 (hb hby d4_104) rfl ?_
    intro T99 X99 e99
    refine own_land (pc' := 108) X99 hx (hb hby d4_107) rfl ?_
    obtain ⟨v100, hv100⟩ : ∃ z : Int64, z = (v97 &&& u1) := ⟨_, rfl⟩
    refine own_lstore (pc' := 110) (l' := #[.val (.ref a1), .val (.long bt), .second, .val (.long v97), .second, .val (.long v100), .second]) X99 hx (hb hby d4_108) hv100 rfl rfl ?_
    refine own_lloadN (pc' := 111) X99 hx (hb hby d4_110) rfl rfl ?_
    refine own_lload (pc' := 113) X99 hx (hb hby d4_111) rfl rfl ?_
    refine own_lxor (pc' := 114) X99 hx (hb hby d4_113) rfl ?_
    refine own_lload (pc' := 116) X99 hx (hb hby d4_114) rfl rfl ?_
    refine own_aloadN (pc' := 117) X99 hx (hb hby d4_116) rfl rfl rfl ?_
    refine own_getF (pc' := 120) X99 hx hZ hown (host := "") (Or.inl (own_w hw 41 rfl)) Via.refl e99 F_d1 (hb hby d4_117) rfl ?_
    intro T101 X101 e101
    refine own_lshl (pc' := 121) X101 hx (hb hby d4_120) rfl ?_
    refine own_lor (pc' := 122) X101 hx (hb hby d4_121) rfl ?_
    obtain ⟨v102, hv102⟩ : ∃ z : Int64, z = ((v97 ^^^ v100) ||| (v100 <<< (d1 &&& 0x3f).toInt64)) := ⟨_, rfl⟩
    refine own_lstoreN (pc' := 123) (l' := #[.val (.ref a1), .val (.long bt), .second, .val (.long v102), .second, .val (.long v100), .second]) X101 hx (hb hby d4_122) hv102 rfl rfl ?_
    have ch1 : own_Ch nn wn pn 1 (fun t j => own_bit bt (t * wn + j)) (own_bit v102) := own_sstep hg rfl (own_posB 1 hsp hp) ch2 (own_UpMv hg (hr 1 (by decide)).2.2 (hr 1 (by decide)).1 (hr 1 (by decide)).2.1) (fun x hx => by rw [hv102, hv100]; exact own_sr _ _ _ _ (hr 1 (by decide)).2.2 x hx) (own_bbig _)
    refine own_aloadN (pc' := 124) X101 hx (hb hby d4_123) rfl rfl rfl ?_
    refine own_getF (pc' := 127) X101 hx hZ hown (host := "") (Or.inl (own_w hw 15 rfl)) Via.refl e101 F_rounds (hb hby d4_124) rfl ?_
    intro T103 X103 e103
    refine own_if_le (pt := 151) (pf := 130) X103 hx (hb hby d4_127) rfl (by decide) rfl (fun hc127 => absurd (by decide) hc127) (fun hc127 => ?_)
    refine own_lloadN (pc' := 131) X103 hx (hb hby d4_130) rfl rfl ?_
    refine own_aloadN (pc' := 132) X103 hx (hb hby d4_131) rfl rfl rfl ?_
    refine own_getF (pc' := 135) X103 hx hZ hown (host := "") (Or.inl (own_w hw 49 rfl)) Via.refl e103 F_u0 (hb hby d4_132) rfl ?_
    intro T104 X104 e104
    refine own_land (pc' := 136) X104 hx (hb hby d4_135) rfl ?_
    obtain ⟨v105, hv105⟩ : ∃ z : Int64, z = (v102 &&& u0) := ⟨_, rfl⟩
    refine own_lstore (pc' := 138) (l' := #[.val (.ref a1), .val (.long bt), .second, .val (.long v102), .second, .val (.long v105), .second]) X104 hx (hb hby d4_136) hv105 rfl rfl ?_
    refine own_lloadN (pc' := 139) X104 hx (hb hby d4_138) rfl rfl ?_
    refine own_lload (pc' := 141) X104 hx (hb hby d4_139) rfl rfl ?_
    refine own_lxor (pc' := 142) X104 hx (hb hby d4_141) rfl ?_
    refine own_lload (pc' := 144) X104 hx (hb hby d4_142) rfl rfl ?_
    refine own_aloadN (pc' := 145) X104 hx (hb hby d4_144) rfl rfl rfl ?_
    refine own_getF (pc' := 148) X104 hx hZ hown (host := "") (Or.inl (own_w hw 39 rfl)) Via.refl e104 F_d0 (hb hby d4_145) rfl ?_
    intro T106 X106 e106
    refine own_lshl (pc' := 149) X106 hx (hb hby d4_148) rfl ?_
    refine own_lor (pc' := 150) X106 hx (hb hby d4_149) rfl ?_
    obtain ⟨v107, hv107⟩ : ∃ z : Int64, z = ((v102 ^^^ v105) ||| (v105 <<< (d0 &&& 0x3f).toInt64)) := ⟨_, rfl⟩
    refine own_lstoreN (pc' := 151) (l' := #[.val (.ref a1), .val (.long bt), .second, .val (.long v107), .second, .val (.long v105), .second]) X106 hx (hb hby d4_150) hv107 rfl rfl ?_
    have ch0 : own_Ch nn wn pn 0 (fun t j => own_bit bt (t * wn + j)) (own_bit v107) := own_sstep hg rfl (own_posB 0 hsp hp) ch1 (own_UpMv hg (hr 0 (by decide)).2.2 (hr 0 (by decide)).1 (hr 0 (by decide)).2.1) (fun x hx => by rw [hv107, hv105]; exact own_sr _ _ _ _ (hr 0 (by decide)).2.2 x hx) (own_bbig _)
    refine own_lloadN (pc' := 152) X106 hx (hb hby d4_151) rfl rfl ?_
    refine own_aloadN (pc' := 153) X106 hx (hb hby d4_152) rfl rfl rfl ?_
    refine own_getF (pc' := 156) X106 hx hZ hown (host := "") (Or.inl (own_w hw 18 rfl)) Via.refl e106 F_start (hb hby d4_153) rfl ?_
    intro T108 X108 e108
    refine own_lshl (pc' := 157) X108 hx (hb hby d4_156) rfl ?_
    refine own_retJ X108 hx hlk hret (hb hby d4_157) (by decide) (by decide) ?_
    exact ⟨_, rfl, fun q hq => own_spread (by omega) hS hp ch0 q hq, rfl, e108⟩
theorem pn_0 : plainFor x = true := plainFor_of_name (by first | (simp [plainName, overriddenIn]; done) | decide +kernel)
theorem ef_con0 (m : MethodId) (p0 : Int32) (p1 : Int32) (p2 : Int32) (p3 : Int32) (p4 : Int32) (p5 : Int64) : entryFrame m #[(.int p0), (.int p1), (.int p2), (.int p3), (.int p4), (.long p5)] 23 = mkF m 0 #[.val (.int p0), .val (.int p1), .val (.int p2), .val (.int p3), .val (.int p4), .val (.long p5), .second, .unset, .unset, .unset, .unset, .unset, .unset, .unset, .unset, .unset, .unset, .unset, .unset, .unset, .unset, .unset, .unset] [] := by first | (simp [entryFrame, mkF, argsToLocals, Value.category]; done) | rfl
theorem pd1 : parseMethodDescriptor "(IIII)V" = some ⟨[.int, .int, .int, .int], none⟩ := by decide +kernel
theorem pd2 : parseMethodDescriptor "(J)J" = some ⟨[.long], some .long⟩ := by decide +kernel
set_option maxRecDepth 65536 in
set_option maxHeartbeats 4000000 in
theorem con0 (l : Launch) (Z : State) (a0 : Array Value) (hw : ∀ d ∈ tables_1, d.before a0 Z = true) (p0 : Int32) (p1 : Int32) (p2 : Int32) (p3 : Int32) (p4 : Int32) (p5 : Int64) (h0 : Heap) (n0 : Nat) (Z0 : n0 ≤ h0.size) :
    own_Con l Z x code maxLocals ret room_1 #[(.int p0), (.int p1), (.int p2), (.int p3), (.int p4), (.long p5)] h0 (fun v h L => v = some (.int 1) ∧ Fr n0 L) := by
  refine own_Con_of pn_0 ?_
  intro p e s m below meth c s₁ X0 hx hby hml hret hlk hnm hown hZ e0
  have hown : s.vm.findClass "com/example/nimble_bloom/nimblebloom/filter/WordMaskSpreadPinLaw" = some m.cls := hown
  have hml : c.maxLocals = 23 := hml
  have hret : meth.sig.returnType = (some .boolean) := hret
  have N0 := Fr.nil n0
  show own_WP _ _ _ _ _ _ _ (s₁.setTop (entryFrame m #[(.int p0), (.int p1), (.int p2), (.int p3), (.int p4), (.long p5)] 23))
  rw [ef_con0 m p0 p1 p2 p3 p4 p5]
  refine own_iconst (pc' := 1) X0 hx (1 : Int32) (hb hby at_0) rfl rfl ?_
  refine own_iloadN (pc' := 2) X0 hx (hb hby at_1) rfl rfl ?_
  refine own_bipush (pc' := 4) X0 hx (63 : Int32) (hb hby at_2) rfl rfl ?_
  refine own_iand (pc' := 5) X0 hx (hb hby at_4) rfl ?_
  refine own_iadd (pc' := 6) X0 hx (hb hby at_5) rfl ?_
  obtain ⟨v1, hv1⟩ : ∃ z : Int32, z = ((1 : Int32) + (p0 &&& (63 : Int32))) := ⟨_, rfl⟩
  refine own_istore (pc' := 8) (l' := #[.val (.int p0), .val (.int p1), .val (.int p2), .val (.int p3), .val (.int p4), .val (.long p5), .second, .val (.int v1), .unset, .unset, .unset, .unset, .unset, .unset, .unset, .unset, .unset, .unset, .unset, .unset, .unset, .unset, .unset]) X0 hx (hb hby at_6) hv1 rfl rfl ?_
  obtain ⟨wn, hW, hw1, hw64⟩ := own_w2 hv1
  refine own_iload (pc' := 10) X0 hx (hb hby at_8) rfl rfl ?_
  refine own_iloadN (pc' := 11) X0 hx (hb hby at_10) rfl rfl ?_
  refine own_ldcInt (pc' := 13) X0 hx hZ hown (own_w hw 0 rfl) (hb hby at_11) rfl ?_
  refine own_iand (pc' := 14) X0 hx (hb hby at_13) rfl ?_
  refine own_bipush (pc' := 16) X0 hx (65 : Int32) (hb hby at_14) rfl rfl ?_
  refine own_iload (pc' := 18) X0 hx (hb hby at_16) rfl rfl ?_
  refine own_isub (pc' := 19) X0 hx (hb hby at_18) rfl ?_
  refine own_irem (pc' := 20) X0 hx (hb hby at_19) (own_nz (own_subN own_65 hW (by omega)) (by omega)) rfl ?_
  refine own_iadd (pc' := 21) X0 hx (hb hby at_20) rfl ?_
  obtain ⟨v2, hv2⟩ : ∃ z : Int32, z = (v1 + ((p1 &&& (2147483647 : Int32)) % ((65 : Int32) - v1))) := ⟨_, rfl⟩
  refine own_istore (pc' := 23) (l' := #[.val (.int p0), .val (.int p1), .val (.int p2), .val (.int p3), .val (.int p4), .val (.long p5), .second, .val (.int v1), .val (.int v2), .unset, .unset, .unset, .unset, .unset, .unset, .unset, .unset, .unset, .unset, .unset, .unset, .unset, .unset]) X0 hx (hb hby at_21) hv2 rfl rfl ?_
  obtain ⟨pn, hP, hwp, hp64⟩ := own_p1 hW hw64 hv2
  have hx1 := own_x1 hW hP hw64 (by omega)
  refine own_bipush (pc' := 25) X0 hx (64 : Int32) (hb hby at_23) rfl rfl ?_
  refine own_iload (pc' := 27) X0 hx (hb hby at_25) rfl rfl ?_
  refine own_isub (pc' := 28) X0 hx (hb hby at_27) rfl ?_
  refine own_iload (pc' := 30) X0 hx (hb hby at_28) rfl rfl ?_
  refine own_idiv (pc' := 31) X0 hx (hb hby at_30) (own_nz hP (by omega)) rfl ?_
  refine own_iconst (pc' := 32) X0 hx (1 : Int32) (hb hby at_31) rfl rfl ?_
  refine own_iadd (pc' := 33) X0 hx (hb hby at_32) rfl ?_
  obtain ⟨v3, hv3⟩ : ∃ z : Int32, z = ((((64 : Int32) - v1) / v2) + (1 : Int32)) := ⟨_, rfl⟩
  refine own_istore (pc' := 35) (l' := #[.val (.int p0), .val (.int p1), .val (.int p2), .val (.int p3), .val (.int p4), .val (.long p5), .second, .val (.int v1), .val (.int v2), .val (.int v3), .unset, .unset, .unset, .unset, .unset, .unset, .unset, .unset, .unset, .unset, .unset, .unset, .unset]) X0 hx (hb hby at_33) hv3 rfl rfl ?_
  have hX : v3.toInt = ((1 + (64 - wn) / pn : Nat) : Int) := by rw [hv3, Nat.add_comm]; exact own_addN hx1.1 own_one (by omega)
  refine own_iconst (pc' := 36) X0 hx (1 : Int32) (hb hby at_35) rfl rfl ?_
  refine own_iloadN (pc' := 37) X0 hx (hb hby at_36) rfl rfl ?_
  refine own_ldcInt (pc' := 39) X0 hx hZ hown (own_w hw 0 rfl) (hb hby at_37) rfl ?_
  refine own_iand (pc' := 40) X0 hx (hb hby at_39) rfl ?_
  refine own_iload (pc' := 42) X0 hx (hb hby at_40) rfl rfl ?_
  refine own_irem (pc' := 43) X0 hx (hb hby at_42) (own_nz hX (Nat.le_add_right _ _)) rfl ?_
  refine own_iadd (pc' := 44) X0 hx (hb hby at_43) rfl ?_
  obtain ⟨v4, hv4⟩ : ∃ z : Int32, z = ((1 : Int32) + ((p2 &&& (2147483647 : Int32)) % v3)) := ⟨_, rfl⟩
  refine own_istore (pc' := 46) (l' := #[.val (.int p0), .val (.int p1), .val (.int p2), .val (.int p3), .val (.int p4), .val (.long p5), .second, .val (.int v1), .val (.int v2), .val (.int v3), .val (.int v4), .unset, .unset, .unset, .unset, .unset, .unset, .unset, .unset, .unset, .unset, .unset, .unset]) X0 hx (hb hby at_44) hv4 rfl rfl ?_
  obtain ⟨nn, hN, hn1, hnq⟩ := own_n1 hX hx1.2 hv4
  have hsp := own_sp hw64 hnq
  refine own_iload (pc' := 48) X0 hx (hb hby at_46) rfl rfl ?_
  refine own_iconst (pc' := 49) X0 hx (1 : Int32) (hb hby at_48) rfl rfl ?_
  refine own_isub (pc' := 50) X0 hx (hb hby at_49) rfl ?_
  refine own_iload (pc' := 52) X0 hx (hb hby at_50) rfl rfl ?_
  refine own_imul (pc' := 53) X0 hx (hb hby at_52) rfl ?_
  refine own_iload (pc' := 55) X0 hx (hb hby at_53) rfl rfl ?_
  refine own_iadd (pc' := 56) X0 hx (hb hby at_55) rfl ?_
  obtain ⟨v5, hv5⟩ : ∃ z : Int32, z = (((v4 - (1 : Int32)) * v2) + v1) := ⟨_, rfl⟩
  refine own_istore (pc' := 58) (l' := #[.val (.int p0), .val (.int p1), .val (.int p2), .val (.int p3), .val (.int p4), .val (.long p5), .second, .val (.int v1), .val (.int v2), .val (.int v3), .val (.int v4), .val (.int v5), .unset, .unset, .unset, .unset, .unset, .unset, .unset, .unset, .unset, .unset, .unset]) X0 hx (hb hby at_56) hv5 rfl rfl ?_
  have hSp := own_spv hW hP hN hn1 hsp hv5
  refine own_iloadN (pc' := 59) X0 hx (hb hby at_58) rfl rfl ?_
  refine own_ldcInt (pc' := 61) X0 hx hZ hown (own_w hw 0 rfl) (hb hby at_59) rfl ?_
  refine own_iand (pc' := 62) X0 hx (hb hby at_61) rfl ?_
  refine own_bipush (pc' := 64) X0 hx (65 : Int32) (hb hby at_62) rfl rfl ?_
  refine own_iload (pc' := 66) X0 hx (hb hby at_64) rfl rfl ?_
  refine own_isub (pc' := 67) X0 hx (hb hby at_66) rfl ?_
  refine own_irem (pc' := 68) X0 hx (hb hby at_67) (own_nz (own_subN own_65 hSp (by omega)) (by omega)) rfl ?_
  obtain ⟨v6, hv6⟩ : ∃ z : Int32, z = ((p3 &&& (2147483647 : Int32)) % ((65 : Int32) - v5)) := ⟨_, rfl⟩
  refine own_istore (pc' := 70) (l' := #[.val (.int p0), .val (.int p1), .val (.int p2), .val (.int p3), .val (.int p4), .val (.long p5), .second, .val (.int v1), .val (.int v2), .val (.int v3), .val (.int v4), .val (.int v5), .val (.int v6), .unset, .unset, .unset, .unset, .unset, .unset, .unset, .unset, .unset, .unset]) X0 hx (hb hby at_68) hv6 rfl rfl ?_
  obtain ⟨sn, hS, hs64⟩ := own_s1 hSp hsp hv6
  have hN4 : own_N v6 v1 v2 v4 sn wn pn nn := ⟨hS, hW, hP, hN, hw1, hwp, hn1, by omega⟩
  have hcn := own_cntle hsp hwp hn1
  refine own_iload (pc' := 72) X0 hx (hb hby at_70) rfl rfl ?_
  refine own_bipush (pc' := 74) X0 hx (63 : Int32) (hb hby at_72) rfl rfl ?_
  refine own_iand (pc' := 75) X0 hx (hb hby at_74) rfl ?_
  obtain ⟨v7, hv7⟩ : ∃ z : Int32, z = (p4 &&& (63 : Int32)) := ⟨_, rfl⟩
  refine own_istore (pc' := 77) (l' := #[.val (.int p0), .val (.int p1), .val (.int p2), .val (.int p3), .val (.int p4), .val (.long p5), .second, .val (.int v1), .val (.int v2), .val (.int v3), .val (.int v4), .val (.int v5), .val (.int v6), .val (.int v7), .unset, .unset, .unset, .unset, .unset, .unset, .unset, .unset, .unset]) X0 hx (hb hby at_75) hv7 rfl rfl ?_
  obtain ⟨qn, hq, hq64⟩ := own_q63 hv7
  refine own_new (pc' := 80) X0 hx hZ hown (own_w hw 1 rfl) (own_w hw 2 rfl) (own_w hw 3 rfl) e0 (hb hby at_77) (by decide) (by decide) rfl ?_
  intro T8 h8 b8 g8 X8 e8 E8 A8 D8
  have g_b8 : n0 ≤ b8 := Nat.le_trans Z0 (Nat.le_of_eq g8.symm)
  have z8 : n0 ≤ h8.size := Nat.le_trans Z0 E8.1
  have F8_rounds : Fld Z h8 b8 "com/example/nimble_bloom/nimblebloom/filter/WordMask" "rounds" "I" (.int (0 : Int32)) := D8 (Or.inr (own_w hw 16 rfl)) (ty := .int) (by decide)
  have F8_start : Fld Z h8 b8 "com/example/nimble_bloom/nimblebloom/filter/WordMask" "start" "I" (.int (0 : Int32)) := D8 (Or.inr (own_w hw 19 rfl)) (ty := .int) (by decide)
  have F8_runs : Fld Z h8 b8 "com/example/nimble_bloom/nimblebloom/filter/WordMask" "runs" "J" (.long (0 : Int64)) := D8 (Or.inr (own_w hw 21 rfl)) (ty := .long) (by decide)
  have F8_mask : Fld Z h8 b8 "com/example/nimble_bloom/nimblebloom/filter/WordMask" "mask" "J" (.long (0 : Int64)) := D8 (Or.inr (own_w hw 23 rfl)) (ty := .long) (by decide)
  have F8_count : Fld Z h8 b8 "com/example/nimble_bloom/nimblebloom/filter/WordMask" "count" "I" (.int (0 : Int32)) := D8 (Or.inr (own_w hw 25 rfl)) (ty := .int) (by decide)
  have F8_low : Fld Z h8 b8 "com/example/nimble_bloom/nimblebloom/filter/WordMask" "low" "J" (.long (0 : Int64)) := D8 (Or.inr (own_w hw 27 rfl)) (ty := .long) (by decide)
  have F8_moving0 : Fld Z h8 b8 "com/example/nimble_bloom/nimblebloom/filter/WordMask" "moving0" "J" (.long (0 : Int64)) := D8 (Or.inr (own_w hw 30 rfl)) (ty := .long) (by decide)
  have F8_moving1 : Fld Z h8 b8 "com/example/nimble_bloom/nimblebloom/filter/WordMask" "moving1" "J" (.long (0 : Int64)) := D8 (Or.inr (own_w hw 32 rfl)) (ty := .long) (by decide)
  have F8_moving2 : Fld Z h8 b8 "com/example/nimble_bloom/nimblebloom/filter/WordMask" "moving2" "J" (.long (0 : Int64)) := D8 (Or.inr (own_w hw 34 rfl)) (ty := .long) (by decide)
  have F8_moving3 : Fld Z h8 b8 "com/example/nimble_bloom/nimblebloom/filter/WordMask" "moving3" "J" (.long (0 : Int64)) := D8 (Or.inr (own_w hw 36 rfl)) (ty := .long) (by decide)
  have F8_moving4 : Fld Z h8 b8 "com/example/nimble_bloom/nimblebloom/filter/WordMask" "moving4" "J" (.long (0 : Int64)) := D8 (Or.inr (own_w hw 38 rfl)) (ty := .long) (by decide)
  have F8_distance0 : Fld Z h8 b8 "com/example/nimble_bloom/nimblebloom/filter/WordMask" "distance0" "I" (.int (0 : Int32)) := D8 (Or.inr (own_w hw 40 rfl)) (ty := .int) (by decide)
  have F8_distance1 : Fld Z h8 b8 "com/example/nimble_bloom/nimblebloom/filter/WordMask" "distance1" "I" (.int (0 : Int32)) := D8 (Or.inr (own_w hw 42 rfl)) (ty := .int) (by decide)
  have F8_distance2 : Fld Z h8 b8 "com/example/nimble_bloom/nimblebloom/filter/WordMask" "distance2" "I" (.int (0 : Int32)) := D8 (Or.inr (own_w hw 44 rfl)) (ty := .int) (by decide)
  have F8_distance3 : Fld Z h8 b8 "com/example/nimble_bloom/nimblebloom/filter/WordMask" "distance3" "I" (.int (0 : Int32)) := D8 (Or.inr (own_w hw 46 rfl)) (ty := .int) (by decide)
  have F8_distance4 : Fld Z h8 b8 "com/example/nimble_bloom/nimblebloom/filter/WordMask" "distance4" "I" (.int (0 : Int32)) := D8 (Or.inr (own_w hw 48 rfl)) (ty := .int) (by decide)
  have F8_moved0 : Fld Z h8 b8 "com/example/nimble_bloom/nimblebloom/filter/WordMask" "moved0" "J" (.long (0 : Int64)) := D8 (Or.inr (own_w hw 50 rfl)) (ty := .long) (by decide)
  have F8_moved1 : Fld Z h8 b8 "com/example/nimble_bloom/nimblebloom/filter/WordMask" "moved1" "J" (.long (0 : Int64)) := D8 (Or.inr (own_w hw 52 rfl)) (ty := .long) (by decide)
  have F8_moved2 : Fld Z h8 b8 "com/example/nimble_bloom/nimblebloom/filter/WordMask" "moved2" "J" (.long (0 : Int64)) := D8 (Or.inr (own_w hw 54 rfl)) (ty := .long) (by decide)
  have F8_moved3 : Fld Z h8 b8 "com/example/nimble_bloom/nimblebloom/filter/WordMask" "moved3" "J" (.long (0 : Int64)) := D8 (Or.inr (own_w hw 56 rfl)) (ty := .long) (by decide)
  have F8_moved4 : Fld Z h8 b8 "com/example/nimble_bloom/nimblebloom/filter/WordMask" "moved4" "J" (.long (0 : Int64)) := D8 (Or.inr (own_w hw 58 rfl)) (ty := .long) (by decide)
  refine own_dup (pc' := 81) X8 hx (hb hby at_80) rfl rfl ?_
  refine own_iload (pc' := 83) X8 hx (hb hby at_81) rfl rfl ?_
  refine own_iload (pc' := 85) X8 hx (hb hby at_83) rfl rfl ?_
  refine own_iload (pc' := 87) X8 hx (hb hby at_85) rfl rfl ?_
  refine own_iload (pc' := 89) X8 hx (hb hby at_87) rfl rfl ?_
  refine own_callN (pc' := 92) (W := 1) (y := (⟨"com/example/nimble_bloom/nimblebloom/filter/WordMask", "<init>", "(IIII)V"⟩ : MethodName)) X8 hx hZ rfl hown (own_w hw 4 rfl) (own_w hw 5 rfl) (own_w hw 3 rfl) (own_w hw 6 rfl) (by decide) (conC l Z a0 hw b8 v6 v1 v2 v4 _ n0 z8 sn wn pn nn hN4 A8 F8_start F8_runs F8_mask F8_count F8_low F8_rounds F8_moving0 F8_moving1 F8_moving2 F8_moving3 F8_moving4 F8_distance0 F8_distance1 F8_distance2 F8_distance3 F8_distance4 F8_moved0 F8_moved1 F8_moved2 F8_moved3 F8_moved4 g_b8) e8 pd1 b8 [(.int v6), (.int v1), (.int v2), (.int v4)] [(.ref b8)] rfl rfl rfl (Nat.le_of_eq rfl) (by decide) (by decide) (by rw [hml]; rfl) (hb hby at_89) (by decide) (by decide) rfl ?_
  intro v9 T9 L9 X9 q9
  obtain ⟨R9, rI9, rn9, lo9, m0_9, m1_9, m2_9, m3_9, m4_9, u0_9, u1_9, u2_9, u3_9, u4_9, d0_9, d1_9, d2_9, d3_9, d4_9, hRI9, hWM9, rfl, M9, K9, E9q, F9_start, F9_runs, F9_low, F9_rounds, F9_moving0, F9_moving1, F9_moving2, F9_moving3, F9_moving4, F9_moved0, F9_moved1, F9_moved2, F9_moved3, F9_moved4, F9_distance0, F9_distance1, F9_distance2, F9_distance3, F9_distance4⟩ := q9
  obtain ⟨h9, e9⟩ : ∃ z, z = T9.heap := ⟨_, rfl⟩
  rw [← e9] at K9 E9q F9_start F9_runs F9_low F9_rounds F9_moving0 F9_moving1 F9_moving2 F9_moving3 F9_moving4 F9_moved0 F9_moved1 F9_moved2 F9_moved3 F9_moved4 F9_distance0 F9_distance1 F9_distance2 F9_distance3 F9_distance4
  have e9 := e9.symm
  have z9 : n0 ≤ h9.size := Nat.le_trans z8 K9.1
  have N9 := Fr.app N0 M9
  show own_WP _ _ _ _ _ _ _ (T9.setTop (mkF m 92 #[.val (.int p0), .val (.int p1), .val (.int p2), .val (.int p3), .val (.int p4), .val (.long p5), .second, .val (.int v1), .val (.int v2), .val (.int v3), .val (.int v4), .val (.int v5), .val (.int v6), .val (.int v7), .unset, .unset, .unset, .unset, .unset, .unset, .unset, .unset, .unset] [(.ref b8)]))
  refine own_astore (pc' := 94) (l' := #[.val (.int p0), .val (.int p1), .val (.int p2), .val (.int p3), .val (.int p4), .val (.long p5), .second, .val (.int v1), .val (.int v2), .val (.int v3), .val (.int v4), .val (.int v5), .val (.int v6), .val (.int v7), .val (.ref b8), .unset, .unset, .unset, .unset, .unset, .unset, .unset, .unset]) X9 hx (hb hby at_92) rfl rfl rfl ?_
  refine own_aload (pc' := 96) X9 hx (hb hby at_94) rfl rfl rfl ?_
  refine own_lload (pc' := 98) X9 hx (hb hby at_96) rfl rfl ?_
  refine own_callV (pc' := 101) (W := 0) (y := (⟨"com/example/nimble_bloom/nimblebloom/filter/WordMask", "spread", "(J)J"⟩ : MethodName)) (z := (⟨"com/example/nimble_bloom/nimblebloom/filter/WordMask", "spread", "(J)J"⟩ : MethodName)) X9 hx hZ hown (own_w hw 59 rfl) (own_w hw 60 rfl) (notFace_of_selects (args := #[]) (mvT hZ (own_w hw 62 rfl))) (own_w hw 62 rfl) (own_w hw 61 rfl) (own_w hw 3 rfl) (own_w hw 63 rfl) (by decide) E9q (conG l Z a0 hw b8 p5 _ sn wn pn nn hw1 hwp hsp v6 (by rw [own_shq _ _ hS]; omega) R9 rI9 hRI9 rn9 lo9 m0_9 m1_9 m2_9 m3_9 m4_9 u0_9 u1_9 u2_9 u3_9 u4_9 d0_9 d1_9 d2_9 d3_9 d4_9 hWM9 F9_start F9_low F9_rounds F9_moved0 F9_distance0 F9_moved1 F9_distance1 F9_moved2 F9_distance2 F9_moved3 F9_distance3 F9_moved4 F9_distance4) e9 pd2 [(.long p5)] [] rfl rfl rfl (Nat.le_of_eq rfl) (by decide) (by decide) (by rw [hml]; rfl) (hb hby at_98) (by decide) (by decide) rfl ?_
  intro v10 T10 L10 X10 q10
  obtain ⟨r10, rfl, hr10, rfl, e10⟩ := q10
  have N10 := Fr.app N9 (Fr.nil n0)
  have hbit := hr10 qn hq64
  show own_WP _ _ _ _ _ _ _ (T10.setTop (mkF m 101 #[.val (.int p0), .val (.int p1), .val (.int p2), .val (.int p3), .val (.int p4), .val (.long p5), .second, .val (.int v1), .val (.int v2), .val (.int v3), .val (.int v4), .val (.int v5), .val (.int v6), .val (.int v7), .val (.ref b8), .unset, .unset, .unset, .unset, .unset, .unset, .unset, .unset] [(.long r10)]))
  refine own_lstore (pc' := 103) (l' := #[.val (.int p0), .val (.int p1), .val (.int p2), .val (.int p3), .val (.int p4), .val (.long p5), .second, .val (.int v1), .val (.int v2), .val (.int v3), .val (.int v4), .val (.int v5), .val (.int v6), .val (.int v7), .val (.ref b8), .val (.long r10), .second, .unset, .unset, .unset, .unset, .unset, .unset]) X10 hx (hb hby at_101) rfl rfl rfl ?_
  refine own_lconst0 (pc' := 104) X10 hx (hb hby at_103) rfl ?_
  refine own_lstore (pc' := 106) (l' := #[.val (.int p0), .val (.int p1), .val (.int p2), .val (.int p3), .val (.int p4), .val (.long p5), .second, .val (.int v1), .val (.int v2), .val (.int v3), .val (.int v4), .val (.int v5), .val (.int v6), .val (.int v7), .val (.ref b8), .val (.long r10), .second, .val (.long (0 : Int64)), .second, .unset, .unset, .unset, .unset]) X10 hx (hb hby at_104) rfl rfl rfl ?_
  refine own_iload (pc' := 108) X10 hx (hb hby at_106) rfl rfl ?_
  refine own_iload (pc' := 110) X10 hx (hb hby at_108) rfl rfl ?_
  refine own_isub (pc' := 111) X10 hx (hb hby at_110) rfl ?_
  obtain ⟨v11, hv11⟩ : ∃ z : Int32, z = (v7 - v6) := ⟨_, rfl⟩
  refine own_istore (pc' := 113) (l' := #[.val (.int p0), .val (.int p1), .val (.int p2), .val (.int p3), .val (.int p4), .val (.long p5), .second, .val (.int v1), .val (.int v2), .val (.int v3), .val (.int v4), .val (.int v5), .val (.int v6), .val (.int v7), .val (.ref b8), .val (.long r10), .second, .val (.long (0 : Int64)), .second, .val (.int v11), .unset, .unset, .unset]) X10 hx (hb hby at_111) hv11 rfl rfl ?_
  refine own_iload (pc' := 115) X10 hx (hb hby at_113) rfl rfl ?_
  refine own_if_lt (pt := 165) (pf := 118) X10 hx (hb hby at_115) rfl (by decide) rfl (fun hc115 => ?_) (fun hc115 => ?_)
  · skip
    have hA := own_and1 r10 v7 qn (by rw [own_shq _ _ hq]; omega)
    have hno : ¬ sn ≤ qn := by
      intro hsq
      have hO : v11.toInt = ((qn - sn : Nat) : Int) := by rw [hv11]; exact own_subN hq hS hsq
      rw [Int32.lt_iff_toInt_lt, hO, show (0 : Int32).toInt = 0 from by decide] at hc115
      omega
    refine own_lload (pc' := 167) X10 hx (hb hby at_165) rfl rfl ?_
    refine own_iload (pc' := 169) X10 hx (hb hby at_167) rfl rfl ?_
    refine own_lushr (pc' := 170) X10 hx (hb hby at_169) rfl ?_
    refine own_lconst1 (pc' := 171) X10 hx (hb hby at_170) rfl ?_
    refine own_land (pc' := 172) X10 hx (hb hby at_171) rfl ?_
    refine own_lload (pc' := 174) X10 hx (hb hby at_172) rfl rfl ?_
    refine own_lcmp (pc' := 175) X10 hx (hb hby at_174) rfl ?_
    refine own_ifl_ne (pt := 182) (pf := 178) X10 hx (hb hby at_175) rfl (by decide) rfl (fun hc175 => absurd (by rw [hA, hbit]; simp [hno]) hc175) (fun hc175 => ?_)
    refine own_iconst (pc' := 179) X10 hx (1 : Int32) (hb hby at_178) rfl rfl ?_
    refine own_goto (pc' := 183) X10 hx (hb hby at_179) (by decide) rfl ?_
    refine own_retN X10 hx hlk (t := .boolean) (by decide) hret (hb hby at_183) (by decide) (by decide) ?_
    exact ⟨rfl, N10⟩
  · skip
    have hsq : sn ≤ qn := by
      have a := c_isub v7 v6
      have b := rng32 (v7 - v6)
      rw [hv11, Int32.lt_iff_toInt_lt, show (0 : Int32).toInt = 0 from by decide] at hc115
      omega
    have hO : v11.toInt = ((qn - sn : Nat) : Int) := by rw [hv11]; exact own_subN hq hS hsq
    refine own_iload (pc' := 120) X10 hx (hb hby at_118) rfl rfl ?_
    refine own_iload (pc' := 122) X10 hx (hb hby at_120) rfl rfl ?_
    refine own_idiv (pc' := 123) X10 hx (hb hby at_122) (own_nz hP (by omega)) rfl ?_
    obtain ⟨v12, hv12⟩ : ∃ z : Int32, z = (v11 / v2) := ⟨_, rfl⟩
    refine own_istore (pc' := 125) (l' := #[.val (.int p0), .val (.int p1), .val (.int p2), .val (.int p3), .val (.int p4), .val (.long p5), .second, .val (.int v1), .val (.int v2), .val (.int v3), .val (.int v4), .val (.int v5), .val (.int v6), .val (.int v7), .val (.ref b8), .val (.long r10), .second, .val (.long (0 : Int64)), .second, .val (.int v11), .val (.int v12), .unset, .unset]) X10 hx (hb hby at_123) hv12 rfl rfl ?_
    refine own_iload (pc' := 127) X10 hx (hb hby at_125) rfl rfl ?_
    refine own_iload (pc' := 129) X10 hx (hb hby at_127) rfl rfl ?_
    refine own_irem (pc' := 130) X10 hx (hb hby at_129) (own_nz hP (by omega)) rfl ?_
    obtain ⟨v13, hv13⟩ : ∃ z : Int32, z = (v11 % v2) := ⟨_, rfl⟩
    refine own_istore (pc' := 132) (l' := #[.val (.int p0), .val (.int p1), .val (.int p2), .val (.int p3), .val (.int p4), .val (.long p5), .second, .val (.int v1), .val (.int v2), .val (.int v3), .val (.int v4), .val (.int v5), .val (.int v6), .val (.int v7), .val (.ref b8), .val (.long r10), .second, .val (.long (0 : Int64)), .second, .val (.int v11), .val (.int v12), .val (.int v13), .unset]) X10 hx (hb hby at_130) hv13 rfl rfl ?_
    have hT : v12.toInt = (((qn - sn) / pn : Nat) : Int) := by rw [hv12]; exact own_divN hO hP (by omega)
    have hK : v13.toInt = (((qn - sn) % pn : Nat) : Int) := by rw [hv13]; exact own_modN hO hP
    refine own_iload (pc' := 134) X10 hx (hb hby at_132) rfl rfl ?_
    refine own_iload (pc' := 136) X10 hx (hb hby at_134) rfl rfl ?_
    refine own_icmp_ge (pt := 165) (pf := 139) X10 hx (hb hby at_136) rfl (by decide) rfl (fun hc136 => ?_) (fun hc136 => ?_)
    · skip
      have hA := own_and1 r10 v7 qn (by rw [own_shq _ _ hq]; omega)
      have hno : ¬ (qn - sn) / pn < nn := fun q => hc136 ((own_ltN hT hN).mpr q)
      refine own_lload (pc' := 167) X10 hx (hb hby at_165) rfl rfl ?_
      refine own_iload (pc' := 169) X10 hx (hb hby at_167) rfl rfl ?_
      refine own_lushr (pc' := 170) X10 hx (hb hby at_169) rfl ?_
      refine own_lconst1 (pc' := 171) X10 hx (hb hby at_170) rfl ?_
      refine own_land (pc' := 172) X10 hx (hb hby at_171) rfl ?_
      refine own_lload (pc' := 174) X10 hx (hb hby at_172) rfl rfl ?_
      refine own_lcmp (pc' := 175) X10 hx (hb hby at_174) rfl ?_
      refine own_ifl_ne (pt := 182) (pf := 178) X10 hx (hb hby at_175) rfl (by decide) rfl (fun hc175 => absurd (by rw [hA, hbit]; simp [hno]) hc175) (fun hc175 => ?_)
      refine own_iconst (pc' := 179) X10 hx (1 : Int32) (hb hby at_178) rfl rfl ?_
      refine own_goto (pc' := 183) X10 hx (hb hby at_179) (by decide) rfl ?_
      refine own_retN X10 hx hlk (t := .boolean) (by decide) hret (hb hby at_183) (by decide) (by decide) ?_
      exact ⟨rfl, N10⟩
    · skip
      refine own_iload (pc' := 141) X10 hx (hb hby at_139) rfl rfl ?_
      refine own_iload (pc' := 143) X10 hx (hb hby at_141) rfl rfl ?_
      refine own_icmp_ge (pt := 165) (pf := 146) X10 hx (hb hby at_143) rfl (by decide) rfl (fun hc143 => ?_) (fun hc143 => ?_)
      · skip
        have hA := own_and1 r10 v7 qn (by rw [own_shq _ _ hq]; omega)
        have hno : ¬ (qn - sn) % pn < wn := fun q => hc143 ((own_ltN hK hW).mpr q)
        refine own_lload (pc' := 167) X10 hx (hb hby at_165) rfl rfl ?_
        refine own_iload (pc' := 169) X10 hx (hb hby at_167) rfl rfl ?_
        refine own_lushr (pc' := 170) X10 hx (hb hby at_169) rfl ?_
        refine own_lconst1 (pc' := 171) X10 hx (hb hby at_170) rfl ?_
        refine own_land (pc' := 172) X10 hx (hb hby at_171) rfl ?_
        refine own_lload (pc' := 174) X10 hx (hb hby at_172) rfl rfl ?_
        refine own_lcmp (pc' := 175) X10 hx (hb hby at_174) rfl ?_
        refine own_ifl_ne (pt := 182) (pf := 178) X10 hx (hb hby at_175) rfl (by decide) rfl (fun hc175 => absurd (by rw [hA, hbit]; simp [hno]) hc175) (fun hc175 => ?_)
        refine own_iconst (pc' := 179) X10 hx (1 : Int32) (hb hby at_178) rfl rfl ?_
        refine own_goto (pc' := 183) X10 hx (hb hby at_179) (by decide) rfl ?_
        refine own_retN X10 hx hlk (t := .boolean) (by decide) hret (hb hby at_183) (by decide) (by decide) ?_
        exact ⟨rfl, N10⟩
      · skip
        refine own_iload (pc' := 148) X10 hx (hb hby at_146) rfl rfl ?_
        refine own_iload (pc' := 150) X10 hx (hb hby at_148) rfl rfl ?_
        refine own_imul (pc' := 151) X10 hx (hb hby at_150) rfl ?_
        refine own_iload (pc' := 153) X10 hx (hb hby at_151) rfl rfl ?_
        refine own_iadd (pc' := 154) X10 hx (hb hby at_153) rfl ?_
        obtain ⟨v14, hv14⟩ : ∃ z : Int32, z = ((v12 * v1) + v13) := ⟨_, rfl⟩
        refine own_istore (pc' := 156) (l' := #[.val (.int p0), .val (.int p1), .val (.int p2), .val (.int p3), .val (.int p4), .val (.long p5), .second, .val (.int v1), .val (.int v2), .val (.int v3), .val (.int v4), .val (.int v5), .val (.int v6), .val (.int v7), .val (.ref b8), .val (.long r10), .second, .val (.long (0 : Int64)), .second, .val (.int v11), .val (.int v12), .val (.int v13), .val (.int v14)]) X10 hx (hb hby at_154) hv14 rfl rfl ?_
        refine own_lload (pc' := 158) X10 hx (hb hby at_156) rfl rfl ?_
        refine own_iload (pc' := 160) X10 hx (hb hby at_158) rfl rfl ?_
        refine own_lushr (pc' := 161) X10 hx (hb hby at_160) rfl ?_
        refine own_lconst1 (pc' := 162) X10 hx (hb hby at_161) rfl ?_
        refine own_land (pc' := 163) X10 hx (hb hby at_162) rfl ?_
        obtain ⟨v15, hv15⟩ : ∃ z : Int64, z = (((p5.toUInt64 >>> (v14 &&& 0x3f).toInt64.toUInt64).toInt64) &&& (1 : Int64)) := ⟨_, rfl⟩
        refine own_lstore (pc' := 165) (l' := #[.val (.int p0), .val (.int p1), .val (.int p2), .val (.int p3), .val (.int p4), .val (.long p5), .second, .val (.int v1), .val (.int v2), .val (.int v3), .val (.int v4), .val (.int v5), .val (.int v6), .val (.int v7), .val (.ref b8), .val (.long r10), .second, .val (.long v15), .second, .val (.int v11), .val (.int v12), .val (.int v13), .val (.int v14)]) X10 hx (hb hby at_163) hv15 rfl rfl ?_
        have hA := own_and1 r10 v7 qn (by rw [own_shq _ _ hq]; omega)
        have y1 : (qn - sn) / pn < nn := (own_ltN hT hN).mp hc136
        have y2 : (qn - sn) % pn < wn := (own_ltN hK hW).mp hc143
        have y3 : (qn - sn) / pn * wn + wn ≤ nn * wn := by have := Nat.mul_le_mul_right wn (show (qn - sn) / pn + 1 ≤ nn by omega); rw [Nat.add_mul, Nat.one_mul] at this; exact this
        have hI : v14.toInt = (((qn - sn) / pn * wn + (qn - sn) % pn : Nat) : Int) := by rw [hv14]; exact own_addN (own_mulN hT hW (by omega)) hK (by omega)
        refine own_lload (pc' := 167) X10 hx (hb hby at_165) rfl rfl ?_
        refine own_iload (pc' := 169) X10 hx (hb hby at_167) rfl rfl ?_
        refine own_lushr (pc' := 170) X10 hx (hb hby at_169) rfl ?_
        refine own_lconst1 (pc' := 171) X10 hx (hb hby at_170) rfl ?_
        refine own_land (pc' := 172) X10 hx (hb hby at_171) rfl ?_
        refine own_lload (pc' := 174) X10 hx (hb hby at_172) rfl rfl ?_
        refine own_lcmp (pc' := 175) X10 hx (hb hby at_174) rfl ?_
        refine own_ifl_ne (pt := 182) (pf := 178) X10 hx (hb hby at_175) rfl (by decide) rfl (fun hc175 => absurd (by rw [hA, hbit]; rw [hv15, own_and1 _ _ ((qn - sn) / pn * wn + (qn - sn) % pn) (by rw [own_shq _ _ hI, Nat.mod_eq_of_lt (by omega)])]; simp [hsq, y1, y2]) hc175) (fun hc175 => ?_)
        refine own_iconst (pc' := 179) X10 hx (1 : Int32) (hb hby at_178) rfl rfl ?_
        refine own_goto (pc' := 183) X10 hx (hb hby at_179) (by decide) rfl ?_
        refine own_retN X10 hx hlk (t := .boolean) (by decide) hret (hb hby at_183) (by decide) (by decide) ?_
        exact ⟨rfl, N10⟩
set_option maxRecDepth 65536 in
set_option maxHeartbeats 4000000 in
theorem comes_1 {Post : Tables → Env → Array Value → Jvm.State → Outcome → Jvm.State → Prop} (hpost : ∀ tb e args s v u, (limb_1_1.after args s (.returned v) u = true ∧ limb_1_2.after args s (.returned v) u = true ∧ True) → FrameEnd s (.returned v) u (Jvm.fieldLocs frame_1_writes args s ++ Jvm.arrayLocs frame_1_arrays args s ++ Jvm.staticLocs frame_1_statics s) 16 128 → Post tb e args s (.returned v) u) :
    ArmFor flags0 classFile x code maxLocals ret World_1 tables_1 room_1 Calls_1 rest_1 Pre_1 Post := by
  intro l hfl _ _ p e ha hc hk s m args below hf hA hF happ hP
  obtain ⟨hcalls, hrest, hpre⟩ := hP
  obtain ⟨-, -, -, hnamed, -, -, -, hat⟩ := (Spec.applies_iff hf).mp happ
  obtain ⟨hg, hn⟩ := and_e (Cond.before_iff.mp (show (Jvm.Cond.and given_1 narrow_1).before args s = true from hpre))
  obtain ⟨u1, u2⟩ := and_e hg
  obtain ⟨u3, u4⟩ := and_e u2
  obtain ⟨u5, u6⟩ := and_e u4
  obtain ⟨u7, u8⟩ := and_e u6
  obtain ⟨u9, u10⟩ := and_e u8
  obtain ⟨u11, u12⟩ := and_e u10
  obtain ⟨w0, w1, w2, w3, w4, w5, rfl⟩ : ∃ w0 w1 w2 w3 w4 w5 : Value, args = #[w0, w1, w2, w3, w4, w5] := by
    have hs : args.size = 6 := by simpa [Cond.value, given_1] using u1
    obtain ⟨L⟩ := args
    match L, hs with
    | [w0, w1, w2, w3, w4, w5], _ => exact ⟨w0, w1, w2, w3, w4, w5, rfl⟩
  have hw := fun d (hd : d ∈ tables_1) => atoms_spec (ws := Jvm.Cond.code x code maxLocals ret :: tables_1) hat d (List.mem_cons_of_mem _ hd)
  obtain ⟨i0, ei0⟩ := is_v u3
  obtain rfl : w0 = (.int i0) := Option.some.inj ei0
  obtain ⟨i1, ei1⟩ := is_v u5
  obtain rfl : w1 = (.int i1) := Option.some.inj ei1
  obtain ⟨i2, ei2⟩ := is_v u7
  obtain rfl : w2 = (.int i2) := Option.some.inj ei2
  obtain ⟨i3, ei3⟩ := is_v u9
  obtain rfl : w3 = (.int i3) := Option.some.inj ei3
  obtain ⟨i4, ei4⟩ := is_v u11
  obtain rfl : w4 = (.int i4) := Option.some.inj ei4
  obtain ⟨i5, ei5⟩ := isL_v u12
  obtain rfl : w5 = (.long i5) := Option.some.inj ei5
  obtain ⟨n, o, h1, h2, h3, _, L, rfl, ⟨rfl, N⟩, hq⟩ := con0 l s _ hw i0 i1 i2 i3 i4 i5 s.heap s.heap.size (Nat.le_refl _)  tables_1 p e ha hc hk s m _ below hf ((Spec.applies_iff_loose hf).mp happ).1 ⟨rfl, State.Warmed39.refl s, rfl⟩ trivial
  refine ⟨n, _, h1, h2, h3, hpost _ _ _ _ _ _ ⟨Cond.after_iff.mpr rfl, Cond.after_iff.mpr (eq_i res_at (Term.int_eval (1)) rfl), trivial⟩ ⟨hq.1, hq.2.1, (hq.2.2.sift fun y hy => Or.inr (N y hy)).mono (by decide) (by decide)⟩⟩
theorem main_1_1 : Claimed_1_1 := comes_1 fun _ _ _ _ _ _ h hF => ⟨h.1, hF⟩
theorem main_1_2 : Claimed_1_2 := comes_1 fun _ _ _ _ _ _ h hF => ⟨h.2.1, hF⟩
end Jvm.Pilot.@@N@@
namespace Jvm.Pilot.@@N@@
open Jvm Jvm.ClassFile Sem Op Lib Jvm.Free Jvm.Stand Jvm.Pilot.@@N@@.Jvm.D
/-! MADE BY PROGRAM (witnessworld.py) out of the Statement's table words and the real class files: 16 classes; the members and pool entries that the words name. The judged class is class 1, her method 1. -/
namespace start1
open Jvm.ClassFile
def u (s : String) : CpInfo := .utf8 (stringToUtf16 s)
/-- a pool by its gaps: so many unusable entries, then the entry; so many at the end -/
def gap : Nat → List CpInfo → List CpInfo
  | 0, r => r
  | n + 1, r => .unusable :: gap n r
def poolList (es : List (Nat × CpInfo)) (last : Nat) : List CpInfo := es.foldr (fun e r => gap e.1 (e.2 :: r)) (gap last [])
def pool (es : List (Nat × CpInfo)) (last : Nat) : Array CpInfo := ⟨poolList es last⟩
def fileOf (pool : Array CpInfo) (this : Nat) (attrs : Array Attribute := #[]) (ms : Array MethodInfo := #[]) (fl : Nat := 33) (sup : Nat := 0) (ifs : Array Nat := #[]) (fds : Array FieldInfo := #[]) : ClassFile where
  minorVersion := 0
  majorVersion := 65
  constantPool := pool
  accessFlags := fl
  thisClass := this
  superClass := sup
  interfaces := ifs
  fields := fds
  methods := ms
  attributes := attrs
def plain (name : String) (sup : Option ClassId) : Class where
  name := name
  kind := .ordinary
  loader := none
  accessFlags := 33
  super := sup
  interfaces := #[]
  cf := none
  fields := #[]
  methods := #[]
  instanceTypes := #[]
  staticTypes := #[]
  resolved := #[]
  callSites := []
  init := .initialized
  statics := none
  mirror := none

def pool0 : Array CpInfo := pool [(5, u "<init>"), (0, u "()V"), (1, .class_ 10), (1, u "java/lang/Object")] 113

def k0c0 : Code := { maxStack := 0, maxLocals := 1, code := object_method_1_code, exceptionTable := #[], attributes := #[] }
def k0m0 : Method := { name := "<init>", desc := "()V", sig := { parameters := [], returnType := none }, accessFlags := 1, code := some k0c0 }
/-- java/lang/Object -/
def k0 : Class := { plain "java/lang/Object" none with
  accessFlags := 33
  interfaces := #[]
  cf := some (fileOf pool0 8 #[] #[{ accessFlags := 1, nameIndex := 5, descriptorIndex := 6, attributes := #[] }] 33 0 #[] #[])
  fields := #[]
  methods := #[k0m0]
  instanceTypes := #[]
  staticTypes := #[]
  resolved := Array.replicate 124 none
  statics := none }

def pool1 : Array CpInfo := pool [(2, .class_ 4), (1, u "java/lang/Object"), (0, u "<init>"), (0, u "()V"), (0, .integer 2147483647), (0, .class_ 9), (0, u "com/example/nimble_bloom/nimblebloom/filter/WordMask"), (0, .methodref 8 11), (0, .nameAndType 5 12), (0, u "(IIII)V"), (0, .methodref 8 14), (0, .nameAndType 15 16), (0, u "spread"), (0, u "(J)J"), (0, .class_ 18), (0, u "com/example/nimble_bloom/nimblebloom/filter/WordMaskSpreadPinLaw"), (2, u "law"), (0, u "(IIIIIJ)Z")] 3

def k1m0 : Method := { name := "<init>", desc := "()V", sig := { parameters := [], returnType := none }, accessFlags := 1, code := none }
def k1c1 : Code := { maxStack := 6, maxLocals := 23, code := code, exceptionTable := #[], attributes := #[] }
def k1m1 : Method := { name := "law", desc := "(IIIIIJ)Z", sig := { parameters := [.int, .int, .int, .int, .int, .long], returnType := some .boolean }, accessFlags := 9, code := some k1c1 }
/-- com/example/nimble_bloom/nimblebloom/filter/WordMaskSpreadPinLaw -/
def k1 : Class := { plain "com/example/nimble_bloom/nimblebloom/filter/WordMaskSpreadPinLaw" (some 0) with
  accessFlags := 49
  interfaces := #[]
  cf := some (fileOf pool1 17 #[] #[{ accessFlags := 1, nameIndex := 5, descriptorIndex := 6, attributes := #[] }, { accessFlags := 9, nameIndex := 21, descriptorIndex := 22, attributes := #[] }] 49 2 #[] #[])
  fields := #[]
  methods := #[k1m0, k1m1]
  instanceTypes := #[]
  staticTypes := #[]
  resolved := Array.replicate 26 none
  statics := none }

def pool2 : Array CpInfo := pool [(1, .methodref 2 3), (0, .class_ 4), (0, .nameAndType 5 6), (0, u "java/lang/Object"), (0, u "<init>"), (0, u "()V"), (0, .class_ 8), (0, u "java/lang/Integer"), (0, .methodref 7 10), (0, .nameAndType 11 12), (0, u "numberOfLeadingZeros"), (0, u "(I)I"), (0, .fieldref 14 15), (0, .class_ 16), (0, .nameAndType 17 18), (0, u "com/example/nimble_bloom/nimblebloom/filter/WordMask"), (0, u "rounds"), (0, u "I"), (0, .long 18446744073709551615), (3, .fieldref 14 24), (0, .nameAndType 25 18), (0, u "start"), (0, .fieldref 14 27), (0, .nameAndType 28 29), (0, u "runs"), (0, u "J"), (0, .fieldref 14 31), (0, .nameAndType 32 29), (0, u "mask"), (0, .fieldref 14 34), (0, .nameAndType 35 18), (0, u "count"), (0, .fieldref 14 37), (0, .nameAndType 38 29), (0, u "low"), (0, .fieldref 14 40), (0, .nameAndType 41 29), (0, u "moving0"), (0, .fieldref 14 43), (0, .nameAndType 44 29), (0, u "moving1"), (0, .fieldref 14 46), (0, .nameAndType 47 29), (0, u "moving2"), (0, .fieldref 14 49), (0, .nameAndType 50 29), (0, u "moving3"), (0, .fieldref 14 52), (0, .nameAndType 53 29), (0, u "moving4"), (0, .fieldref 14 55), (0, .nameAndType 56 18), (0, u "distance0"), (0, .fieldref 14 58), (0, .nameAndType 59 18), (0, u "distance1"), (0, .fieldref 14 61), (0, .nameAndType 62 18), (0, u "distance2"), (0, .fieldref 14 64), (0, .nameAndType 65 18), (0, u "distance3"), (0, .fieldref 14 67), (0, .nameAndType 68 18), (0, u "distance4"), (0, .fieldref 14 70), (0, .nameAndType 71 29), (0, u "moved0"), (0, .fieldref 14 73), (0, .nameAndType 74 29), (0, u "moved1"), (0, .fieldref 14 76), (0, .nameAndType 77 29), (0, u "moved2"), (0, .fieldref 14 79), (0, .nameAndType 80 29), (0, u "moved3"), (0, .fieldref 14 82), (0, .nameAndType 83 29), (0, u "moved4"), (0, u "MAX_ROUNDS"), (2, u "(IIII)V"), (8, u "(J)J"), (0, u "spread")] 2

def k2c0 : Code := { maxStack := 7, maxLocals := 14, code := prog_36_method_1_code, exceptionTable := #[], attributes := #[] }
def k2m0 : Method := { name := "<init>", desc := "(IIII)V", sig := { parameters := [.int, .int, .int, .int], returnType := none }, accessFlags := 0, code := some k2c0 }
def k2c1 : Code := { maxStack := 5, maxLocals := 7, code := prog_36_method_5_code, exceptionTable := #[], attributes := #[] }
def k2m1 : Method := { name := "spread", desc := "(J)J", sig := { parameters := [.long], returnType := some .long }, accessFlags := 0, code := some k2c1 }
/-- com/example/nimble_bloom/nimblebloom/filter/WordMask -/
def k2 : Class := { plain "com/example/nimble_bloom/nimblebloom/filter/WordMask" (some 0) with
  accessFlags := 48
  interfaces := #[]
  cf := some (fileOf pool2 14 #[] #[{ accessFlags := 0, nameIndex := 5, descriptorIndex := 87, attributes := #[] }, { accessFlags := 0, nameIndex := 97, descriptorIndex := 96, attributes := #[] }] 48 2 #[] #[{ accessFlags := 26, nameIndex := 84, descriptorIndex := 18, attributes := #[] }, { accessFlags := 18, nameIndex := 25, descriptorIndex := 18, attributes := #[] }, { accessFlags := 18, nameIndex := 32, descriptorIndex := 29, attributes := #[] }, { accessFlags := 18, nameIndex := 28, descriptorIndex := 29, attributes := #[] }, { accessFlags := 18, nameIndex := 35, descriptorIndex := 18, attributes := #[] }, { accessFlags := 18, nameIndex := 38, descriptorIndex := 29, attributes := #[] }, { accessFlags := 18, nameIndex := 17, descriptorIndex := 18, attributes := #[] }, { accessFlags := 18, nameIndex := 41, descriptorIndex := 29, attributes := #[] }, { accessFlags := 18, nameIndex := 44, descriptorIndex := 29, attributes := #[] }, { accessFlags := 18, nameIndex := 47, descriptorIndex := 29, attributes := #[] }, { accessFlags := 18, nameIndex := 50, descriptorIndex := 29, attributes := #[] }, { accessFlags := 18, nameIndex := 53, descriptorIndex := 29, attributes := #[] }, { accessFlags := 18, nameIndex := 71, descriptorIndex := 29, attributes := #[] }, { accessFlags := 18, nameIndex := 74, descriptorIndex := 29, attributes := #[] }, { accessFlags := 18, nameIndex := 77, descriptorIndex := 29, attributes := #[] }, { accessFlags := 18, nameIndex := 80, descriptorIndex := 29, attributes := #[] }, { accessFlags := 18, nameIndex := 83, descriptorIndex := 29, attributes := #[] }, { accessFlags := 18, nameIndex := 56, descriptorIndex := 18, attributes := #[] }, { accessFlags := 18, nameIndex := 59, descriptorIndex := 18, attributes := #[] }, { accessFlags := 18, nameIndex := 62, descriptorIndex := 18, attributes := #[] }, { accessFlags := 18, nameIndex := 65, descriptorIndex := 18, attributes := #[] }, { accessFlags := 18, nameIndex := 68, descriptorIndex := 18, attributes := #[] }])
  fields := #[{ name := "MAX_ROUNDS", type := .int, accessFlags := 26, slot := 0, constantValue := 0 }, { name := "start", type := .int, accessFlags := 18, slot := 0, constantValue := 0 }, { name := "mask", type := .long, accessFlags := 18, slot := 1, constantValue := 0 }, { name := "runs", type := .long, accessFlags := 18, slot := 2, constantValue := 0 }, { name := "count", type := .int, accessFlags := 18, slot := 3, constantValue := 0 }, { name := "low", type := .long, accessFlags := 18, slot := 4, constantValue := 0 }, { name := "rounds", type := .int, accessFlags := 18, slot := 5, constantValue := 0 }, { name := "moving0", type := .long, accessFlags := 18, slot := 6, constantValue := 0 }, { name := "moving1", type := .long, accessFlags := 18, slot := 7, constantValue := 0 }, { name := "moving2", type := .long, accessFlags := 18, slot := 8, constantValue := 0 }, { name := "moving3", type := .long, accessFlags := 18, slot := 9, constantValue := 0 }, { name := "moving4", type := .long, accessFlags := 18, slot := 10, constantValue := 0 }, { name := "moved0", type := .long, accessFlags := 18, slot := 11, constantValue := 0 }, { name := "moved1", type := .long, accessFlags := 18, slot := 12, constantValue := 0 }, { name := "moved2", type := .long, accessFlags := 18, slot := 13, constantValue := 0 }, { name := "moved3", type := .long, accessFlags := 18, slot := 14, constantValue := 0 }, { name := "moved4", type := .long, accessFlags := 18, slot := 15, constantValue := 0 }, { name := "distance0", type := .int, accessFlags := 18, slot := 16, constantValue := 0 }, { name := "distance1", type := .int, accessFlags := 18, slot := 17, constantValue := 0 }, { name := "distance2", type := .int, accessFlags := 18, slot := 18, constantValue := 0 }, { name := "distance3", type := .int, accessFlags := 18, slot := 19, constantValue := 0 }, { name := "distance4", type := .int, accessFlags := 18, slot := 20, constantValue := 0 }]
  methods := #[k2m0, k2m1]
  instanceTypes := #[.int, .long, .long, .int, .long, .int, .long, .long, .long, .long, .long, .long, .long, .long, .long, .long, .int, .int, .int, .int, .int]
  staticTypes := #[.int]
  resolved := Array.replicate 100 none
  statics := none }

def pool3 : Array CpInfo := pool [(1, .class_ 2), (0, u "java/io/Serializable"), (0, .class_ 4), (0, u "java/lang/Object")] 2

/-- java/io/Serializable -/
def k3 : Class := { plain "java/io/Serializable" (some 0) with
  accessFlags := 1537
  interfaces := #[]
  cf := some (fileOf pool3 1 #[] #[] 1537 3 #[] #[])
  fields := #[]
  methods := #[]
  instanceTypes := #[]
  staticTypes := #[]
  resolved := Array.replicate 7 none
  statics := none }

def pool4 : Array CpInfo := pool [(2, .class_ 4), (1, u "java/lang/Object"), (0, u "<init>"), (0, u "()V"), (1, .class_ 10), (1, u "java/lang/Number"), (2, .class_ 14), (0, u "java/io/Serializable"), (0, u "serialVersionUID"), (0, u "J")] 20

def k4m0 : Method := { name := "<init>", desc := "()V", sig := { parameters := [], returnType := none }, accessFlags := 1, code := none }
/-- java/lang/Number -/
def k4 : Class := { plain "java/lang/Number" (some 0) with
  accessFlags := 1057
  interfaces := #[3]
  cf := some (fileOf pool4 8 #[] #[{ accessFlags := 1, nameIndex := 5, descriptorIndex := 6, attributes := #[] }] 1057 2 #[13] #[{ accessFlags := 26, nameIndex := 15, descriptorIndex := 16, attributes := #[] }])
  fields := #[{ name := "serialVersionUID", type := .long, accessFlags := 26, slot := 0, constantValue := 0 }]
  methods := #[k4m0]
  instanceTypes := #[]
  staticTypes := #[.long]
  resolved := Array.replicate 37 none
  statics := none }

def pool5 : Array CpInfo := pool [(1, .class_ 2), (0, u "java/lang/Comparable"), (0, .class_ 4), (0, u "java/lang/Object")] 7

/-- java/lang/Comparable -/
def k5 : Class := { plain "java/lang/Comparable" (some 0) with
  accessFlags := 1537
  interfaces := #[]
  cf := some (fileOf pool5 1 #[] #[] 1537 3 #[] #[])
  fields := #[]
  methods := #[]
  instanceTypes := #[]
  staticTypes := #[]
  resolved := Array.replicate 12 none
  statics := none }

def pool6 : Array CpInfo := pool [(1, .class_ 2), (0, u "java/lang/constant/Constable"), (0, .class_ 4), (0, u "java/lang/Object")] 6

/-- java/lang/constant/Constable -/
def k6 : Class := { plain "java/lang/constant/Constable" (some 0) with
  accessFlags := 1537
  interfaces := #[]
  cf := some (fileOf pool6 1 #[] #[] 1537 3 #[] #[])
  fields := #[]
  methods := #[]
  instanceTypes := #[]
  staticTypes := #[]
  resolved := Array.replicate 11 none
  statics := none }

def pool7 : Array CpInfo := pool [(1, .class_ 2), (0, u "java/lang/constant/ConstantDesc"), (0, .class_ 4), (0, u "java/lang/Object")] 32

/-- java/lang/constant/ConstantDesc -/
def k7 : Class := { plain "java/lang/constant/ConstantDesc" (some 0) with
  accessFlags := 1537
  interfaces := #[]
  cf := some (fileOf pool7 1 #[] #[] 1537 3 #[] #[])
  fields := #[]
  methods := #[]
  instanceTypes := #[]
  staticTypes := #[]
  resolved := Array.replicate 37 none
  statics := none }

def pool8 : Array CpInfo := pool [(1, .class_ 2), (0, u "java/lang/Integer"), (16, u "digits"), (0, u "[C"), (32, u "numberOfLeadingZeros"), (0, u "(I)I"), (30, u "DigitOnes"), (0, u "[B"), (2, u "DigitTens"), (99, .class_ 190), (0, u "java/lang/Integer$IntegerCache"), (3, u "I"), (8, .class_ 204), (0, u "java/lang/Number"), (2, u "value"), (56, .integer 65536), (37, u "TYPE"), (0, u "Ljava/lang/Class;"), (0, .class_ 305), (0, u "java/lang/Comparable"), (0, .class_ 307), (0, u "java/lang/constant/Constable"), (0, .class_ 309), (0, u "java/lang/constant/ConstantDesc"), (0, u "MIN_VALUE"), (1, u "MAX_VALUE"), (3, u "SIZE"), (1, u "BYTES"), (1, u "serialVersionUID"), (0, u "J")] 131

def k8c0 : Code := { maxStack := 3, maxLocals := 2, code := jdk_33_method_47_code, exceptionTable := #[], attributes := #[] }
def k8m0 : Method := { name := "numberOfLeadingZeros", desc := "(I)I", sig := { parameters := [.int], returnType := some .int }, accessFlags := 9, code := some k8c0 }
/-- java/lang/Integer -/
def k8 : Class := { plain "java/lang/Integer" (some 4) with
  accessFlags := 49
  interfaces := #[5, 6, 7]
  cf := some (fileOf pool8 1 #[.nestMembers #[189]] #[{ accessFlags := 9, nameIndex := 53, descriptorIndex := 54, attributes := #[] }] 49 203 #[304, 306, 308] #[{ accessFlags := 25, nameIndex := 310, descriptorIndex := 194, attributes := #[] }, { accessFlags := 25, nameIndex := 312, descriptorIndex := 194, attributes := #[] }, { accessFlags := 25, nameIndex := 302, descriptorIndex := 303, attributes := #[] }, { accessFlags := 24, nameIndex := 19, descriptorIndex := 20, attributes := #[] }, { accessFlags := 24, nameIndex := 89, descriptorIndex := 86, attributes := #[] }, { accessFlags := 24, nameIndex := 85, descriptorIndex := 86, attributes := #[] }, { accessFlags := 18, nameIndex := 207, descriptorIndex := 194, attributes := #[] }, { accessFlags := 25, nameIndex := 316, descriptorIndex := 194, attributes := #[] }, { accessFlags := 25, nameIndex := 318, descriptorIndex := 194, attributes := #[] }, { accessFlags := 26, nameIndex := 320, descriptorIndex := 321, attributes := #[] }])
  fields := #[{ name := "MIN_VALUE", type := .int, accessFlags := 25, slot := 0, constantValue := 0 }, { name := "MAX_VALUE", type := .int, accessFlags := 25, slot := 1, constantValue := 0 }, { name := "TYPE", type := (.object "java/lang/Class"), accessFlags := 25, slot := 2, constantValue := 0 }, { name := "digits", type := (.array .char), accessFlags := 24, slot := 3, constantValue := 0 }, { name := "DigitTens", type := (.array .byte), accessFlags := 24, slot := 4, constantValue := 0 }, { name := "DigitOnes", type := (.array .byte), accessFlags := 24, slot := 5, constantValue := 0 }, { name := "value", type := .int, accessFlags := 18, slot := 0, constantValue := 0 }, { name := "SIZE", type := .int, accessFlags := 25, slot := 6, constantValue := 0 }, { name := "BYTES", type := .int, accessFlags := 25, slot := 7, constantValue := 0 }, { name := "serialVersionUID", type := .long, accessFlags := 26, slot := 8, constantValue := 0 }]
  methods := #[k8m0]
  instanceTypes := #[.int]
  staticTypes := #[.int, .int, (.object "java/lang/Class"), (.array .char), (.array .byte), (.array .byte), .int, .int, .long]
  resolved := Array.replicate 453 none
  statics := none }

def pool9 : Array CpInfo := pool [(1, u "java/lang/Cloneable"), (0, .class_ 1), (0, u "java/lang/Object"), (0, .class_ 3)] 3

/-- java/lang/Cloneable -/
def k9 : Class := { plain "java/lang/Cloneable" (some 0) with
  accessFlags := 1537
  interfaces := #[]
  cf := some (fileOf pool9 2 #[] #[] 1537 4 #[] #[])
  fields := #[]
  methods := #[]
  instanceTypes := #[]
  staticTypes := #[]
  resolved := Array.replicate 8 none
  statics := none }

/-- the primitive byte -/
def k10 : Class := { plain "byte" none with kind := .primitive 'B', accessFlags := 0x411 }
/-- [B -/
def k11 : Class := { plain "[B" (some 0) with kind := .array 10 .byte, interfaces := #[9, 3], accessFlags := 1041 }

/-- the primitive int -/
def k12 : Class := { plain "int" none with kind := .primitive 'I', accessFlags := 0x411 }
/-- [I -/
def k13 : Class := { plain "[I" (some 0) with kind := .array 12 .int, interfaces := #[9, 3], accessFlags := 1041 }

/-- the primitive long -/
def k14 : Class := { plain "long" none with kind := .primitive 'J', accessFlags := 0x411 }
/-- [J -/
def k15 : Class := { plain "[J" (some 0) with kind := .array 14 .long, interfaces := #[9, 3], accessFlags := 1041 }

def heap : Heap := #[]
def classes : Array Class := #[k0, k1, k2, k3, k4, k5, k6, k7, k8, k9, k10, k11, k12, k13, k14, k15]
def interned : List (Array UInt16 × Addr) := []
def slotsUsed : Nat := 0
def theMethod : MethodId := ⟨1, 1⟩
def args0 : Array Value := #[.int 5, .int 3, .int 4, .int 1, .int 2, .long 7]
def aboutOver (below : List Frame) : State where
  vm := { classes := classes, interned := interned.toArray }
  heap := heap
  slotsUsed := slotsUsed
  threads := #[{ frames := .invoking theMethod args0 :: below }]
def below0 : List Frame := [.native { method := ⟨0, 0⟩, args := #[] }]
def about1 : State := aboutOver below0
def p0 : Program := .bare "" "" ""
def e0 : Env := launch0.env 0 0 0
theorem w_frames : about1.frames = Frame.invoking theMethod args0 :: below0 := rfl
set_option maxRecDepth 65536 in
theorem w_args : argsFit about1.vm theMethod args0 = true := by decide +kernel
set_option maxRecDepth 65536 in
theorem w_heap : heapFits about1 = true := by decide +kernel
set_option maxRecDepth 65536 in
theorem w_runnable : about1.curStatus? = some .runnable := by decide +kernel
set_option maxRecDepth 65536 in
theorem w_alone : about1.alone = true := by decide +kernel
set_option maxRecDepth 65536 in
theorem w_named : about1.methodNamed? x = some theMethod := by decide +kernel
set_option maxRecDepth 65536 in
theorem w_hears : about1.hears theMethod below0 = true := by decide +kernel
set_option maxRecDepth 65536 in
theorem w_ripe : about1.ripe theMethod args0 below0 = true := by decide +kernel
theorem w_running : about1.status = .running := rfl
set_option maxRecDepth 65536 in
theorem w_room : about1.hasRoom e0.platform room_1 = true :=
  launch0.hasRoom_least _ room_1 (by decide +kernel) (by decide +kernel) (by decide +kernel) (by decide +kernel) (by decide +kernel) (by decide +kernel)
theorem allAtoms_all (ts : List Jvm.Cond) (a : Array Jvm.Value) (st : Jvm.State) : (allAtoms ts).before a st = ts.all (fun c => c.before a st) := by
  induction ts with
  | nil => rfl
  | cons c t ih =>
    show (Jvm.Cond.and c (allAtoms t)).before a st = _
    rw [Jvm.Cond.before_and, ih, List.all_cons]
def words1 : List Jvm.Cond := Jvm.Cond.code x code maxLocals ret :: tables_1
/-- a 'code' word, met by the world's own term for the bytes: nothing is compared byte by byte -/
theorem code_word {y : MethodName} {bytes : ByteArray} {mx : Nat} {rt : Option FieldType} {a : Array Value} {s : State} {m : MethodId} {meth : Method} {c : Code} (h1 : s.methodNamed? y = some m) (h2 : s.vm.method? m = some meth) (h3 : meth.code = some c) (h4 : c.code = bytes)
    (h5 : (c.maxLocals == mx && c.exceptionTable.isEmpty && decide (c.maxStack ≤ mostOperands) && decide (meth.sig.returnType = rt) && !meth.locks && decide (parseMethodDescriptor y.desc = some meth.sig)) = true) : (Jvm.Cond.code y bytes mx rt).before a s = true := by
  simp only [Bool.and_eq_true, beq_iff_eq, Bool.not_eq_true', decide_eq_true_eq] at h5
  obtain ⟨⟨⟨⟨⟨g1, g2⟩, g3⟩, g4⟩, g5⟩, g6⟩ := h5
  simp [Cond.before, Cond.holds, Cond.value, h1, h2, h3, h4, g1, g2, g3, g4, g5, g6]
def isCode : Jvm.Cond → Bool
  | .code _ _ _ _ => true
  | _ => false
theorem all_split {L : List Jvm.Cond} {P : Jvm.Cond → Bool} (h1 : L.all (fun c => isCode c || P c) = true) (h2 : ∀ c ∈ L.filter isCode, P c = true) : L.all P = true := by
  refine List.all_eq_true.mpr fun c hc => ?_
  have h := List.all_eq_true.mp h1 c hc
  rcases Bool.eq_false_or_eq_true (isCode c) with hi | hi
  · exact h2 c (List.mem_filter.mpr ⟨hc, hi⟩)
  · simpa [hi] using h
set_option maxRecDepth 65536 in
theorem w_c0 : (Jvm.Cond.code x code maxLocals ret).before args0 about1 = true := code_word (m := ⟨1, 1⟩) (meth := k1m1) (c := k1c1) (by decide +kernel) rfl rfl rfl (by decide +kernel)
set_option maxRecDepth 65536 in
theorem w_c1 : (Jvm.Cond.code ({ cls := "com/example/nimble_bloom/nimblebloom/filter/WordMask", name := "<init>", desc := "(IIII)V" } : Jvm.MethodName) prog_36_method_1_code (14 : Nat) (Option.none : Option Jvm.ClassFile.FieldType)).before args0 about1 = true := code_word (m := ⟨2, 0⟩) (meth := k2m0) (c := k2c0) (by decide +kernel) rfl rfl rfl (by decide +kernel)
set_option maxRecDepth 65536 in
theorem w_c2 : (Jvm.Cond.code ({ cls := "java/lang/Object", name := "<init>", desc := "()V" } : Jvm.MethodName) object_method_1_code (1 : Nat) (Option.none : Option Jvm.ClassFile.FieldType)).before args0 about1 = true := code_word (m := ⟨0, 0⟩) (meth := k0m0) (c := k0c0) (by decide +kernel) rfl rfl rfl (by decide +kernel)
set_option maxRecDepth 65536 in
theorem w_c3 : (Jvm.Cond.code ({ cls := "java/lang/Integer", name := "numberOfLeadingZeros", desc := "(I)I" } : Jvm.MethodName) jdk_33_method_47_code (2 : Nat) (Option.some Jvm.ClassFile.FieldType.int)).before args0 about1 = true := code_word (m := ⟨8, 0⟩) (meth := k8m0) (c := k8c0) (by decide +kernel) rfl rfl rfl (by decide +kernel)
set_option maxRecDepth 65536 in
theorem w_c4 : (Jvm.Cond.code ({ cls := "com/example/nimble_bloom/nimblebloom/filter/WordMask", name := "spread", desc := "(J)J" } : Jvm.MethodName) prog_36_method_5_code (7 : Nat) (Option.some Jvm.ClassFile.FieldType.long)).before args0 about1 = true := code_word (m := ⟨2, 1⟩) (meth := k2m1) (c := k2c1) (by decide +kernel) rfl rfl rfl (by decide +kernel)
def codes1 : List Jvm.Cond := [Jvm.Cond.code x code maxLocals ret, Jvm.Cond.code ({ cls := "com/example/nimble_bloom/nimblebloom/filter/WordMask", name := "<init>", desc := "(IIII)V" } : Jvm.MethodName) prog_36_method_1_code (14 : Nat) (Option.none : Option Jvm.ClassFile.FieldType), Jvm.Cond.code ({ cls := "java/lang/Object", name := "<init>", desc := "()V" } : Jvm.MethodName) object_method_1_code (1 : Nat) (Option.none : Option Jvm.ClassFile.FieldType), Jvm.Cond.code ({ cls := "java/lang/Integer", name := "numberOfLeadingZeros", desc := "(I)I" } : Jvm.MethodName) jdk_33_method_47_code (2 : Nat) (Option.some Jvm.ClassFile.FieldType.int), Jvm.Cond.code ({ cls := "com/example/nimble_bloom/nimblebloom/filter/WordMask", name := "spread", desc := "(J)J" } : Jvm.MethodName) prog_36_method_5_code (7 : Nat) (Option.some Jvm.ClassFile.FieldType.long)]
set_option maxRecDepth 65536 in
theorem codes_eq : words1.filter isCode = codes1 := rfl
theorem w_codes : ∀ c ∈ words1.filter isCode, c.before args0 about1 = true := by
  rw [codes_eq]
  intro c hc
  simp only [codes1, List.mem_cons, List.not_mem_nil, or_false] at hc
  rcases hc with rfl | rfl | rfl | rfl | rfl
  · exact w_c0
  · exact w_c1
  · exact w_c2
  · exact w_c3
  · exact w_c4
set_option maxRecDepth 65536 in
theorem w_t1 : (words1.take 24).all (fun c => isCode c || c.before args0 about1) = true := by decide +kernel
set_option maxRecDepth 65536 in
theorem w_t2 : ((words1.drop 24).take 24).all (fun c => isCode c || c.before args0 about1) = true := by decide +kernel
set_option maxRecDepth 65536 in
theorem w_t3 : ((words1.drop 24).drop 24).all (fun c => isCode c || c.before args0 about1) = true := by decide +kernel
theorem w_tables : (allAtoms (Jvm.Cond.code x code maxLocals ret :: tables_1)).before args0 about1 = true := by
  rw [allAtoms_all]
  show words1.all (fun c => c.before args0 about1) = true
  refine all_split ?_ w_codes
  rw [← List.take_append_drop 24 words1, List.all_append, w_t1, ← List.take_append_drop 24 (words1.drop 24), List.all_append, w_t2, w_t3]
  rfl
set_option maxRecDepth 65536 in
theorem w_case : (Jvm.Cond.and given_1 narrow_1).before args0 about1 = true := by decide +kernel
theorem w_applies : (headSpec (Jvm.Cond.code x code maxLocals ret :: tables_1) room_1).applies x e0.platform about1 = true :=
  (Spec.applies_iff w_frames).mpr ⟨w_running, w_runnable, w_alone, w_named, w_hears, w_ripe, w_room, w_tables⟩
theorem atStart : AtStart classFile x code maxLocals ret World_1 tables_1 room_1 Calls_1 rest_1 Pre_1 launch0 p0 e0 about1 theMethod args0 below0 :=
  ⟨lists_1, trivial, launch0.admits_env _ _ _, launch0.least_env, fairChoices_fair.cas, fairChoices_fair.clock, w_frames, w_args, w_heap, w_applies, trivial, trivial, w_case⟩
end start1
theorem witness_1 : WitnessClaimed_1 := ⟨start1.p0, start1.e0, start1.about1, start1.theMethod, start1.args0, start1.below0, start1.atStart⟩
end Jvm.Pilot.@@N@@
