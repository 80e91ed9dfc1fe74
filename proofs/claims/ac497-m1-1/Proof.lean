import JvmDerived
import JvmDerived.Pilot.@@N@@Statement
import JvmDerived.Pilot.@@N@@Code
set_option linter.unusedVariables false
set_option linter.unusedSimpArgs false
namespace Jvm.Pilot.@@N@@
open Jvm Jvm.ClassFile Sem Op Lib Jvm.Free Jvm.Stand Jvm.LawKit Jvm.RoadKit Bundle Jvm.Pilot.@@N@@.Jvm.D
/-! own_: what is left of a walk, read forwards -/
def own_WP (p : Program) (e : Env) (below : List Frame) (s : State) (Q : Option Value → Heap → List Loc → Prop) (k n : Nat) (a : State) : Prop :=
  ∃ s₂ o, Steps p.tables e below a s₂ ∧ s₂.status = .running ∧ Ended s₂ below o ∧ ∃ v L, o = .returned v ∧ Q v s₂.heap L ∧ FrameEnd s o s₂ L k n
def own_Con (l : Launch) (Z : State) (y : MethodName) (bytes : ByteArray) (maxL : Nat) (ret : Option FieldType) (rm : Room) (as' : Array Value) (h0 : Heap) (Q : Option Value → Heap → List Loc → Prop) : Prop :=
  ∀ ws, MetFree l y (head1 (Jvm.Cond.code y bytes maxL ret :: ws) rm) (fun a U => a = as' ∧ Z.Warmed39 U.vm ∧ U.heap = h0) (fun _ _ _ _ _ => True) (fun _ U o U' => ∃ v L, o = .returned v ∧ Q v U'.heap L ∧ FrameEnd U o U' L rm.cells rm.slots)
theorem own_Con_of {l : Launch} {Z : State} {y : MethodName} {bytes : ByteArray} {maxL : Nat} {ret : Option FieldType} {rm : Room} {as' : Array Value} {h0 : Heap} {Q : Option Value → Heap → List Loc → Prop} (hp : plainFor y = true)
    (hb : ∀ (p : Program) (e : Env) (s : State) (m : MethodId) (below : List Frame) (meth : Method) (c : Code) (s₁ : State), Stand p l e rm s m as' below meth c s₁ [] 0 0 → p.tables.exec = Jvm.exec → c.code = bytes → c.maxLocals = maxL → meth.sig.returnType = ret → meth.locks = false → meth.name = y.name → s.vm.findClass y.cls = some m.cls → Z.Warmed39 s.vm → s₁.heap = h0 →
      own_WP p e below s Q rm.cells rm.slots (s₁.setTop (entryFrame m as' maxL))) : own_Con l Z y bytes maxL ret rm as' h0 Q := by
  intro ws
  refine MetFree.of_bodySF hp hisR ?_
  intro p e s m args below meth c s₁ Bd hml0 hP hK
  obtain ⟨rfl, hZ, hh⟩ := hP
  exact hb p e s m below meth c s₁ (Stand.of_body Bd) Bd.exec Bd.bytes hml0 Bd.returns Bd.notSynchronized (name_of_methodNamed Bd.named Bd.method).1 (findClass_of_methodNamed Bd.named) hZ (by rw [← hh, Bd.state]; rfl)
theorem own_Con_mono {l : Launch} {Z : State} {y : MethodName} {bytes : ByteArray} {maxL : Nat} {ret : Option FieldType} {rm : Room} {as' : Array Value} {h0 : Heap} {Q Q' : Option Value → Heap → List Loc → Prop} (C : own_Con l Z y bytes maxL ret rm as' h0 Q) (hq : ∀ v h L, Q v h L → Q' v h L) : own_Con l Z y bytes maxL ret rm as' h0 Q' := by
  intro ws p e ha hc hk s m args below hf happ hP hK
  obtain ⟨n, o, h1, h2, h3, v, L, h4, h5, h6⟩ := C ws p e ha hc hk s m args below hf happ hP hK
  exact ⟨n, o, h1, h2, h3, v, L, h4, hq _ _ _ h5, h6⟩
theorem own_w {Z : State} {a0 : Array Value} {ts : List Jvm.Cond} {d : Jvm.Cond} (hw : ∀ d ∈ ts, d.before a0 Z = true) (i : Nat) (hi : ts[i]? = some d) : d.before a0 Z = true := hw _ (List.mem_of_getElem? hi)
section OwnWP
variable {p : Program} {l : Launch} {e : Env} {R : Room} {s : State} {m : MethodId} {args : Array Value} {below : List Frame} {meth : Method} {c : Code} {T : State} {locs : List Loc} {cells slots : Nat} {Z : State} {a0 : Array Value} {h : Heap} {Q : Option Value → Heap → List Loc → Prop} {k n : Nat} {a a' : State} {pc pc' : Nat} {ls l' : Array Slot} {rest : List Value}
theorem own_of (hs : ∀ t, Steps p.tables e below a' t → Steps p.tables e below a t) (w : own_WP p e below s Q k n a') : own_WP p e below s Q k n a := by
  obtain ⟨s₂, o, st, r⟩ := w
  exact ⟨s₂, o, hs _ st, r⟩
theorem own_mono {Q' : Option Value → Heap → List Loc → Prop} (hq : ∀ v h L, Q v h L → Q' v h L) (w : own_WP p e below s Q k n a) : own_WP p e below s Q' k n a := by
  obtain ⟨s₂, o, h1, h2, h3, v, L, h4, h5, h6⟩ := w
  exact ⟨s₂, o, h1, h2, h3, v, L, h4, hq _ _ _ h5, h6⟩
theorem own_join {α : Type} (P : α → Prop) (f : α → State) (h1 : (∀ x, P x → own_WP p e below s Q k n (f x)) → own_WP p e below s Q k n a) (h2 : ∀ x, P x → own_WP p e below s Q k n (f x)) : own_WP p e below s Q k n a := h1 h2
theorem own_done (X : Stand p l e R s m args below meth c T locs cells slots) {v : Option Value} (hlk : meth.locks = false) (hv : meth.sig.returnType = none → v = none) (hc : cells ≤ k) (hn : slots ≤ n) (hq : Q v T.heap locs)
    (st : ∀ fs, (∀ (f : JFrame) (acts : List Action), f.method = m → f.locked = none → f.entered = [] → (doReturn e (T.setTop f) acts v).1 = T.setFrames fs) → Steps p.tables e below a (T.setFrames fs)) : own_WP p e below s Q k n a := by
  obtain ⟨fs, hr, hrun, hended, hW, hsame⟩ := X.leave hv hlk
  exact ⟨_, _, st fs hr, hrun, hended, _, _, rfl, hq, ⟨_, rfl⟩, hW, hsame.mono hc hn⟩
theorem own_retI (X : Stand p l e R s m args below meth c T locs cells slots) (hx : p.tables.exec = Jvm.exec) (hlk : meth.locks = false) (hret : meth.sig.returnType = some .int) {z : Int32} (hd : decode c.code pc = .ok (.ireturn, 1)) (hc : cells ≤ k) (hn : slots ≤ n) (hq : Q (some (.int z)) T.heap locs) : own_WP p e below s Q k n (T.setTop (mkF m pc ls (.int z :: rest))) :=
  own_done X hlk (fun q => by rw [hret] at q; cases q) hc hn hq fun fs hr => retOut X hx hret rfl (Or.inl ⟨rfl, Or.inl rfl, z, rfl⟩) hd hr
theorem own_retN (X : Stand p l e R s m args below meth c T locs cells slots) (hx : p.tables.exec = Jvm.exec) (hlk : meth.locks = false) {t : FieldType} (ht : t = .boolean ∨ t = .byte ∨ t = .char ∨ t = .short) (hret : meth.sig.returnType = some t) {z : Int32} (hd : decode c.code pc = .ok (.ireturn, 1)) (hc : cells ≤ k) (hn : slots ≤ n) (hq : Q (some (.int (nar t z))) T.heap locs) : own_WP p e below s Q k n (T.setTop (mkF m pc ls (.int z :: rest))) :=
  own_done X hlk (fun q => by rw [hret] at q; cases q) hc hn hq fun fs hr => retN X hx hret ht hd hr
theorem own_retJ (X : Stand p l e R s m args below meth c T locs cells slots) (hx : p.tables.exec = Jvm.exec) (hlk : meth.locks = false) (hret : meth.sig.returnType = some .long) {z : Int64} (hd : decode c.code pc = .ok (.lreturn, 1)) (hc : cells ≤ k) (hn : slots ≤ n) (hq : Q (some (.long z)) T.heap locs) : own_WP p e below s Q k n (T.setTop (mkF m pc ls (.long z :: rest))) :=
  own_done X hlk (fun q => by rw [hret] at q; cases q) hc hn hq fun fs hr => retOut X hx hret rfl (Or.inr (Or.inl ⟨rfl, rfl, z, rfl⟩)) hd hr
theorem own_retA (X : Stand p l e R s m args below meth c T locs cells slots) (hx : p.tables.exec = Jvm.exec) (hlk : meth.locks = false) {t : FieldType} (ht : t.isReference = true) (hret : meth.sig.returnType = some t) {w : Value} (hw : w.isRef = true) (hnw : narrow t w = w) (hd : decode c.code pc = .ok (.areturn, 1)) (hc : cells ≤ k) (hn : slots ≤ n) (hq : Q (some w) T.heap locs) : own_WP p e below s Q k n (T.setTop (mkF m pc ls (w :: rest))) :=
  own_done X hlk (fun q => by rw [hret] at q; cases q) hc hn hq fun fs hr => retOut X hx hret hnw (Or.inr (Or.inr (Or.inr (Or.inr ⟨rfl, ht, hw⟩)))) hd hr
theorem own_ret0 (X : Stand p l e R s m args below meth c T locs cells slots) (hx : p.tables.exec = Jvm.exec) (hlk : meth.locks = false) (hret : meth.sig.returnType = none) (hd : decode c.code pc = .ok (.return_, 1)) (hc : cells ≤ k) (hn : slots ≤ n) (hq : Q none T.heap locs) : own_WP p e below s Q k n (T.setTop (mkF m pc ls [])) :=
  own_done X hlk (fun _ => rfl) hc hn hq fun fs hr => X.returnOut hx hret hd hr
theorem own_iload (X : Stand p l e R s m args below meth c T locs cells slots) (hx : p.tables.exec = Jvm.exec) {j : Nat} {v : Int32} (hd : decode c.code pc = .ok (.iload j, 2)) (hl : ls[j]? = some (.val (.int v))) (hpc : pc + 2 = pc') (w : own_WP p e below s Q k n (T.setTop (mkF m pc' ls (.int v :: rest)))) : own_WP p e below s Q k n (T.setTop (mkF m pc ls rest)) := by
  subst hpc
  exact own_of (fun t q => XS.iload X.here hx rfl hd hl q) w
theorem own_iloadN (X : Stand p l e R s m args below meth c T locs cells slots) (hx : p.tables.exec = Jvm.exec) {j : Fin 4} {v : Int32} (hd : decode c.code pc = .ok (.iload_n j, 1)) (hl : ls[j.val]? = some (.val (.int v))) (hpc : pc + 1 = pc') (w : own_WP p e below s Q k n (T.setTop (mkF m pc' ls (.int v :: rest)))) : own_WP p e below s Q k n (T.setTop (mkF m pc ls rest)) := by
  subst hpc
  exact own_of (fun t q => XS.iloadN X.here hx rfl hd hl q) w
theorem own_lload (X : Stand p l e R s m args below meth c T locs cells slots) (hx : p.tables.exec = Jvm.exec) {j : Nat} {v : Int64} (hd : decode c.code pc = .ok (.lload j, 2)) (hl : ls[j]? = some (.val (.long v))) (hpc : pc + 2 = pc') (w : own_WP p e below s Q k n (T.setTop (mkF m pc' ls (.long v :: rest)))) : own_WP p e below s Q k n (T.setTop (mkF m pc ls rest)) := by
  subst hpc
  exact own_of (fun t q => XS.lload X.here hx rfl hd hl q) w
theorem own_lloadN (X : Stand p l e R s m args below meth c T locs cells slots) (hx : p.tables.exec = Jvm.exec) {j : Fin 4} {v : Int64} (hd : decode c.code pc = .ok (.lload_n j, 1)) (hl : ls[j.val]? = some (.val (.long v))) (hpc : pc + 1 = pc') (w : own_WP p e below s Q k n (T.setTop (mkF m pc' ls (.long v :: rest)))) : own_WP p e below s Q k n (T.setTop (mkF m pc ls rest)) := by
  subst hpc
  exact own_of (fun t q => XS.lloadN X.here hx rfl hd hl q) w
theorem own_aload (X : Stand p l e R s m args below meth c T locs cells slots) (hx : p.tables.exec = Jvm.exec) {j : Nat} {v : Value} (hd : decode c.code pc = .ok (.aload j, 2)) (hl : ls[j]? = some (.val v)) (hv : v.isRef = true) (hpc : pc + 2 = pc') (w : own_WP p e below s Q k n (T.setTop (mkF m pc' ls (v :: rest)))) : own_WP p e below s Q k n (T.setTop (mkF m pc ls rest)) := by
  subst hpc
  exact own_of (fun t q => XS.aload X.here hx rfl hd hl hv q) w
theorem own_aloadN (X : Stand p l e R s m args below meth c T locs cells slots) (hx : p.tables.exec = Jvm.exec) {j : Fin 4} {v : Value} (hd : decode c.code pc = .ok (.aload_n j, 1)) (hl : ls[j.val]? = some (.val v)) (hv : v.isRef = true) (hpc : pc + 1 = pc') (w : own_WP p e below s Q k n (T.setTop (mkF m pc' ls (v :: rest)))) : own_WP p e below s Q k n (T.setTop (mkF m pc ls rest)) := by
  subst hpc
  exact own_of (fun t q => XS.aloadN X.here hx rfl hd hl hv q) w
theorem own_istore (X : Stand p l e R s m args below meth c T locs cells slots) (hx : p.tables.exec = Jvm.exec) {j : Nat} {v z : Int32} (hd : decode c.code pc = .ok (.istore j, 2)) (hz : z = v) (hl : storeLocals ls j (.int z) = some l') (hpc : pc + 2 = pc') (w : own_WP p e below s Q k n (T.setTop (mkF m pc' l' rest))) : own_WP p e below s Q k n (T.setTop (mkF m pc ls (.int v :: rest))) := by
  subst hpc
  exact own_of (fun t q => XS.istore X.here hx rfl hd rfl (hz ▸ hl) q) w
theorem own_istoreN (X : Stand p l e R s m args below meth c T locs cells slots) (hx : p.tables.exec = Jvm.exec) {j : Fin 4} {v z : Int32} (hd : decode c.code pc = .ok (.istore_n j, 1)) (hz : z = v) (hl : storeLocals ls j.val (.int z) = some l') (hpc : pc + 1 = pc') (w : own_WP p e below s Q k n (T.setTop (mkF m pc' l' rest))) : own_WP p e below s Q k n (T.setTop (mkF m pc ls (.int v :: rest))) := by
  subst hpc
  exact own_of (fun t q => XS.istoreN X.here hx rfl hd rfl (hz ▸ hl) q) w
theorem own_lstore (X : Stand p l e R s m args below meth c T locs cells slots) (hx : p.tables.exec = Jvm.exec) {j : Nat} {v z : Int64} (hd : decode c.code pc = .ok (.lstore j, 2)) (hz : z = v) (hl : storeLocals ls j (.long z) = some l') (hpc : pc + 2 = pc') (w : own_WP p e below s Q k n (T.setTop (mkF m pc' l' rest))) : own_WP p e below s Q k n (T.setTop (mkF m pc ls (.long v :: rest))) := by
  subst hpc
  exact own_of (fun t q => XS.lstore X.here hx rfl hd rfl (hz ▸ hl) q) w
theorem own_lstoreN (X : Stand p l e R s m args below meth c T locs cells slots) (hx : p.tables.exec = Jvm.exec) {j : Fin 4} {v z : Int64} (hd : decode c.code pc = .ok (.lstore_n j, 1)) (hz : z = v) (hl : storeLocals ls j.val (.long z) = some l') (hpc : pc + 1 = pc') (w : own_WP p e below s Q k n (T.setTop (mkF m pc' l' rest))) : own_WP p e below s Q k n (T.setTop (mkF m pc ls (.long v :: rest))) := by
  subst hpc
  exact own_of (fun t q => XS.lstoreN X.here hx rfl hd rfl (hz ▸ hl) q) w
theorem own_astore (X : Stand p l e R s m args below meth c T locs cells slots) (hx : p.tables.exec = Jvm.exec) {j : Nat} {v : Value} (hd : decode c.code pc = .ok (.astore j, 2)) (hv : v.isRef = true) (hl : storeLocals ls j v = some l') (hpc : pc + 2 = pc') (w : own_WP p e below s Q k n (T.setTop (mkF m pc' l' rest))) : own_WP p e below s Q k n (T.setTop (mkF m pc ls (v :: rest))) := by
  subst hpc
  exact own_of (fun t q => XS.astore X.here hx rfl hd rfl hv hl q) w
theorem own_astoreN (X : Stand p l e R s m args below meth c T locs cells slots) (hx : p.tables.exec = Jvm.exec) {j : Fin 4} {v : Value} (hd : decode c.code pc = .ok (.astore_n j, 1)) (hv : v.isRef = true) (hl : storeLocals ls j.val v = some l') (hpc : pc + 1 = pc') (w : own_WP p e below s Q k n (T.setTop (mkF m pc' l' rest))) : own_WP p e below s Q k n (T.setTop (mkF m pc ls (v :: rest))) := by
  subst hpc
  exact own_of (fun t q => XS.astoreN X.here hx rfl hd rfl hv hl q) w
theorem own_iinc (X : Stand p l e R s m args below meth c T locs cells slots) (hx : p.tables.exec = Jvm.exec) {j : Nat} {i : Int} {v z : Int32} (hd : decode c.code pc = .ok (.iinc j i, 3)) (hl0 : ls[j]? = some (.val (.int v))) (hz : z = v + Int32.ofInt i) (hl : storeLocals ls j (.int z) = some l') (hpc : pc + 3 = pc') (w : own_WP p e below s Q k n (T.setTop (mkF m pc' l' rest))) : own_WP p e below s Q k n (T.setTop (mkF m pc ls rest)) := by
  subst hpc
  exact own_of (fun t q => XS.iinc X.here hx rfl hd hl0 (hz ▸ hl) q) w
theorem own_iconst (X : Stand p l e R s m args below meth c T locs cells slots) (hx : p.tables.exec = Jvm.exec) {i : Int} (v : Int32) (hd : decode c.code pc = .ok (.iconst i, 1)) (hv : v = Int32.ofInt i) (hpc : pc + 1 = pc') (w : own_WP p e below s Q k n (T.setTop (mkF m pc' ls (.int v :: rest)))) : own_WP p e below s Q k n (T.setTop (mkF m pc ls rest)) := by
  subst hpc
  exact own_of (fun t q => XS.iconst X.here hx rfl hd (hv ▸ q)) w
theorem own_bipush (X : Stand p l e R s m args below meth c T locs cells slots) (hx : p.tables.exec = Jvm.exec) {i : Int} (v : Int32) (hd : decode c.code pc = .ok (.bipush i, 2)) (hv : v = (Int8.ofInt i).toInt32) (hpc : pc + 2 = pc') (w : own_WP p e below s Q k n (T.setTop (mkF m pc' ls (.int v :: rest)))) : own_WP p e below s Q k n (T.setTop (mkF m pc ls rest)) := by
  subst hpc
  exact own_of (fun t q => XS.bipush X.here hx rfl hd (hv ▸ q)) w
theorem own_sipush (X : Stand p l e R s m args below meth c T locs cells slots) (hx : p.tables.exec = Jvm.exec) {i : Int} (v : Int32) (hd : decode c.code pc = .ok (.sipush i, 3)) (hv : v = (Int16.ofInt i).toInt32) (hpc : pc + 3 = pc') (w : own_WP p e below s Q k n (T.setTop (mkF m pc' ls (.int v :: rest)))) : own_WP p e below s Q k n (T.setTop (mkF m pc ls rest)) := by
  subst hpc
  exact own_of (fun t q => XS.sipush X.here hx rfl hd (hv ▸ q)) w
theorem own_anull (X : Stand p l e R s m args below meth c T locs cells slots) (hx : p.tables.exec = Jvm.exec)  (hd : decode c.code pc = .ok (.aconst_null, 1)) (hpc : pc + 1 = pc') (w : own_WP p e below s Q k n (T.setTop (mkF m pc' ls (.null :: rest)))) : own_WP p e below s Q k n (T.setTop (mkF m pc ls rest)) := by
  subst hpc
  exact own_of (fun t q => XS.aconstNull X.here hx rfl hd q) w
theorem own_lconst0 (X : Stand p l e R s m args below meth c T locs cells slots) (hx : p.tables.exec = Jvm.exec)  (hd : decode c.code pc = .ok (.lconst 0, 1)) (hpc : pc + 1 = pc') (w : own_WP p e below s Q k n (T.setTop (mkF m pc' ls (.long 0 :: rest)))) : own_WP p e below s Q k n (T.setTop (mkF m pc ls rest)) := by
  subst hpc
  exact own_of (fun t q => XS.lconst X.here hx rfl hd q) w
theorem own_lconst1 (X : Stand p l e R s m args below meth c T locs cells slots) (hx : p.tables.exec = Jvm.exec)  (hd : decode c.code pc = .ok (.lconst 1, 1)) (hpc : pc + 1 = pc') (w : own_WP p e below s Q k n (T.setTop (mkF m pc' ls (.long 1 :: rest)))) : own_WP p e below s Q k n (T.setTop (mkF m pc ls rest)) := by
  subst hpc
  exact own_of (fun t q => XS.lconst X.here hx rfl hd q) w
theorem own_ldcInt (X : Stand p l e R s m args below meth c T locs cells slots) (hx : p.tables.exec = Jvm.exec) (hZ : Z.Warmed39 s.vm) {own : String} {idx : Nat} {v : Int32} (hown : s.vm.findClass own = some m.cls) (w1 : (Jvm.Cond.constant own idx v).before a0 Z = true) (hd : decode c.code pc = .ok (.ldc idx, 2)) (hpc : pc + 2 = pc') (w : own_WP p e below s Q k n (T.setTop (mkF m pc' ls (.int v :: rest)))) : own_WP p e below s Q k n (T.setTop (mkF m pc ls rest)) := by
  subst hpc
  exact own_of (fun t q => X.ldcInt hx hown (mvT hZ w1) (g := mkF m pc ls rest) rfl hd _ q) w
theorem own_ldcwInt (X : Stand p l e R s m args below meth c T locs cells slots) (hx : p.tables.exec = Jvm.exec) (hZ : Z.Warmed39 s.vm) {own : String} {idx : Nat} {v : Int32} (hown : s.vm.findClass own = some m.cls) (w1 : (Jvm.Cond.constant own idx v).before a0 Z = true) (hd : decode c.code pc = .ok (.ldc_w idx, 3)) (hpc : pc + 3 = pc') (w : own_WP p e below s Q k n (T.setTop (mkF m pc' ls (.int v :: rest)))) : own_WP p e below s Q k n (T.setTop (mkF m pc ls rest)) := by
  subst hpc
  exact own_of (fun t q => X.ldcwInt hx hown (mvT hZ w1) (g := mkF m pc ls rest) rfl hd _ q) w
theorem own_ldc2Long (X : Stand p l e R s m args below meth c T locs cells slots) (hx : p.tables.exec = Jvm.exec) (hZ : Z.Warmed39 s.vm) {own : String} {idx : Nat} {v : Int64} (hown : s.vm.findClass own = some m.cls) (w1 : (Jvm.Cond.constantLong own idx v).before a0 Z = true) (hd : decode c.code pc = .ok (.ldc2_w idx, 3)) (hpc : pc + 3 = pc') (w : own_WP p e below s Q k n (T.setTop (mkF m pc' ls (.long v :: rest)))) : own_WP p e below s Q k n (T.setTop (mkF m pc ls rest)) := by
  subst hpc
  exact own_of (fun t q => X.ldc2Long hx hown (mvT hZ w1) (g := mkF m pc ls rest) rfl hd _ q) w
theorem own_iadd (X : Stand p l e R s m args below meth c T locs cells slots) (hx : p.tables.exec = Jvm.exec) {x y : Int32} (hd : decode c.code pc = .ok (.iadd, 1)) (hpc : pc + 1 = pc') (w : own_WP p e below s Q k n (T.setTop (mkF m pc' ls (.int (x + y) :: rest)))) : own_WP p e below s Q k n (T.setTop (mkF m pc ls (.int y :: .int x :: rest))) := by
  subst hpc
  exact own_of (fun t q => XS.iadd X.here hx rfl hd rfl q) w
theorem own_ladd (X : Stand p l e R s m args below meth c T locs cells slots) (hx : p.tables.exec = Jvm.exec) {x y : Int64} (hd : decode c.code pc = .ok (.ladd, 1)) (hpc : pc + 1 = pc') (w : own_WP p e below s Q k n (T.setTop (mkF m pc' ls (.long (x + y) :: rest)))) : own_WP p e below s Q k n (T.setTop (mkF m pc ls (.long y :: .long x :: rest))) := by
  subst hpc
  exact own_of (fun t q => XS.ladd X.here hx rfl hd rfl q) w
theorem own_isub (X : Stand p l e R s m args below meth c T locs cells slots) (hx : p.tables.exec = Jvm.exec) {x y : Int32} (hd : decode c.code pc = .ok (.isub, 1)) (hpc : pc + 1 = pc') (w : own_WP p e below s Q k n (T.setTop (mkF m pc' ls (.int (x - y) :: rest)))) : own_WP p e below s Q k n (T.setTop (mkF m pc ls (.int y :: .int x :: rest))) := by
  subst hpc
  exact own_of (fun t q => XS.isub X.here hx rfl hd rfl q) w
theorem own_lsub (X : Stand p l e R s m args below meth c T locs cells slots) (hx : p.tables.exec = Jvm.exec) {x y : Int64} (hd : decode c.code pc = .ok (.lsub, 1)) (hpc : pc + 1 = pc') (w : own_WP p e below s Q k n (T.setTop (mkF m pc' ls (.long (x - y) :: rest)))) : own_WP p e below s Q k n (T.setTop (mkF m pc ls (.long y :: .long x :: rest))) := by
  subst hpc
  exact own_of (fun t q => XS.lsub X.here hx rfl hd rfl q) w
theorem own_imul (X : Stand p l e R s m args below meth c T locs cells slots) (hx : p.tables.exec = Jvm.exec) {x y : Int32} (hd : decode c.code pc = .ok (.imul, 1)) (hpc : pc + 1 = pc') (w : own_WP p e below s Q k n (T.setTop (mkF m pc' ls (.int (x * y) :: rest)))) : own_WP p e below s Q k n (T.setTop (mkF m pc ls (.int y :: .int x :: rest))) := by
  subst hpc
  exact own_of (fun t q => XS.imul X.here hx rfl hd rfl q) w
theorem own_lmul (X : Stand p l e R s m args below meth c T locs cells slots) (hx : p.tables.exec = Jvm.exec) {x y : Int64} (hd : decode c.code pc = .ok (.lmul, 1)) (hpc : pc + 1 = pc') (w : own_WP p e below s Q k n (T.setTop (mkF m pc' ls (.long (x * y) :: rest)))) : own_WP p e below s Q k n (T.setTop (mkF m pc ls (.long y :: .long x :: rest))) := by
  subst hpc
  exact own_of (fun t q => XS.lmul X.here hx rfl hd rfl q) w
theorem own_iand (X : Stand p l e R s m args below meth c T locs cells slots) (hx : p.tables.exec = Jvm.exec) {x y : Int32} (hd : decode c.code pc = .ok (.iand, 1)) (hpc : pc + 1 = pc') (w : own_WP p e below s Q k n (T.setTop (mkF m pc' ls (.int (x &&& y) :: rest)))) : own_WP p e below s Q k n (T.setTop (mkF m pc ls (.int y :: .int x :: rest))) := by
  subst hpc
  exact own_of (fun t q => XS.iand X.here hx rfl hd rfl q) w
theorem own_land (X : Stand p l e R s m args below meth c T locs cells slots) (hx : p.tables.exec = Jvm.exec) {x y : Int64} (hd : decode c.code pc = .ok (.land, 1)) (hpc : pc + 1 = pc') (w : own_WP p e below s Q k n (T.setTop (mkF m pc' ls (.long (x &&& y) :: rest)))) : own_WP p e below s Q k n (T.setTop (mkF m pc ls (.long y :: .long x :: rest))) := by
  subst hpc
  exact own_of (fun t q => XS.land X.here hx rfl hd rfl q) w
theorem own_ior (X : Stand p l e R s m args below meth c T locs cells slots) (hx : p.tables.exec = Jvm.exec) {x y : Int32} (hd : decode c.code pc = .ok (.ior, 1)) (hpc : pc + 1 = pc') (w : own_WP p e below s Q k n (T.setTop (mkF m pc' ls (.int (x ||| y) :: rest)))) : own_WP p e below s Q k n (T.setTop (mkF m pc ls (.int y :: .int x :: rest))) := by
  subst hpc
  exact own_of (fun t q => XS.ior X.here hx rfl hd rfl q) w
theorem own_lor (X : Stand p l e R s m args below meth c T locs cells slots) (hx : p.tables.exec = Jvm.exec) {x y : Int64} (hd : decode c.code pc = .ok (.lor, 1)) (hpc : pc + 1 = pc') (w : own_WP p e below s Q k n (T.setTop (mkF m pc' ls (.long (x ||| y) :: rest)))) : own_WP p e below s Q k n (T.setTop (mkF m pc ls (.long y :: .long x :: rest))) := by
  subst hpc
  exact own_of (fun t q => XS.lor X.here hx rfl hd rfl q) w
theorem own_ixor (X : Stand p l e R s m args below meth c T locs cells slots) (hx : p.tables.exec = Jvm.exec) {x y : Int32} (hd : decode c.code pc = .ok (.ixor, 1)) (hpc : pc + 1 = pc') (w : own_WP p e below s Q k n (T.setTop (mkF m pc' ls (.int (x ^^^ y) :: rest)))) : own_WP p e below s Q k n (T.setTop (mkF m pc ls (.int y :: .int x :: rest))) := by
  subst hpc
  exact own_of (fun t q => XS.ixor X.here hx rfl hd rfl q) w
theorem own_lxor (X : Stand p l e R s m args below meth c T locs cells slots) (hx : p.tables.exec = Jvm.exec) {x y : Int64} (hd : decode c.code pc = .ok (.lxor, 1)) (hpc : pc + 1 = pc') (w : own_WP p e below s Q k n (T.setTop (mkF m pc' ls (.long (x ^^^ y) :: rest)))) : own_WP p e below s Q k n (T.setTop (mkF m pc ls (.long y :: .long x :: rest))) := by
  subst hpc
  exact own_of (fun t q => XS.lxor X.here hx rfl hd rfl q) w
theorem own_ishl (X : Stand p l e R s m args below meth c T locs cells slots) (hx : p.tables.exec = Jvm.exec) {x y : Int32} (hd : decode c.code pc = .ok (.ishl, 1)) (hpc : pc + 1 = pc') (w : own_WP p e below s Q k n (T.setTop (mkF m pc' ls (.int (x <<< (y &&& 31)) :: rest)))) : own_WP p e below s Q k n (T.setTop (mkF m pc ls (.int y :: .int x :: rest))) := by
  subst hpc
  exact own_of (fun t q => XS.ishl X.here hx rfl hd rfl q) w
theorem own_ishr (X : Stand p l e R s m args below meth c T locs cells slots) (hx : p.tables.exec = Jvm.exec) {x y : Int32} (hd : decode c.code pc = .ok (.ishr, 1)) (hpc : pc + 1 = pc') (w : own_WP p e below s Q k n (T.setTop (mkF m pc' ls (.int (x >>> (y &&& 31)) :: rest)))) : own_WP p e below s Q k n (T.setTop (mkF m pc ls (.int y :: .int x :: rest))) := by
  subst hpc
  exact own_of (fun t q => XS.ishr X.here hx rfl hd rfl q) w
theorem own_iushr (X : Stand p l e R s m args below meth c T locs cells slots) (hx : p.tables.exec = Jvm.exec) {x y : Int32} (hd : decode c.code pc = .ok (.iushr, 1)) (hpc : pc + 1 = pc') (w : own_WP p e below s Q k n (T.setTop (mkF m pc' ls (.int ((x.toUInt32 >>> (y &&& 31).toUInt32).toInt32) :: rest)))) : own_WP p e below s Q k n (T.setTop (mkF m pc ls (.int y :: .int x :: rest))) := by
  subst hpc
  exact own_of (fun t q => XS.iushr X.here hx rfl hd rfl q) w
theorem own_lshl (X : Stand p l e R s m args below meth c T locs cells slots) (hx : p.tables.exec = Jvm.exec) {x : Int64} {y : Int32} (hd : decode c.code pc = .ok (.lshl, 1)) (hpc : pc + 1 = pc') (w : own_WP p e below s Q k n (T.setTop (mkF m pc' ls (.long (x <<< (y &&& 0x3f).toInt64) :: rest)))) : own_WP p e below s Q k n (T.setTop (mkF m pc ls (.int y :: .long x :: rest))) := by
  subst hpc
  exact own_of (fun t q => XS.lshl X.here hx rfl hd rfl q) w
theorem own_lshr (X : Stand p l e R s m args below meth c T locs cells slots) (hx : p.tables.exec = Jvm.exec) {x : Int64} {y : Int32} (hd : decode c.code pc = .ok (.lshr, 1)) (hpc : pc + 1 = pc') (w : own_WP p e below s Q k n (T.setTop (mkF m pc' ls (.long (x >>> (y &&& 0x3f).toInt64) :: rest)))) : own_WP p e below s Q k n (T.setTop (mkF m pc ls (.int y :: .long x :: rest))) := by
  subst hpc
  exact own_of (fun t q => XS.lshr X.here hx rfl hd rfl q) w
theorem own_lushr (X : Stand p l e R s m args below meth c T locs cells slots) (hx : p.tables.exec = Jvm.exec) {x : Int64} {y : Int32} (hd : decode c.code pc = .ok (.lushr, 1)) (hpc : pc + 1 = pc') (w : own_WP p e below s Q k n (T.setTop (mkF m pc' ls (.long ((x.toUInt64 >>> (y &&& 0x3f).toInt64.toUInt64).toInt64) :: rest)))) : own_WP p e below s Q k n (T.setTop (mkF m pc ls (.int y :: .long x :: rest))) := by
  subst hpc
  exact own_of (fun t q => XS.lushr X.here hx rfl hd rfl q) w
theorem own_idiv (X : Stand p l e R s m args below meth c T locs cells slots) (hx : p.tables.exec = Jvm.exec) {x y : Int32} (hd : decode c.code pc = .ok (.idiv, 1)) (hy : y ≠ 0) (hpc : pc + 1 = pc') (w : own_WP p e below s Q k n (T.setTop (mkF m pc' ls (.int (x / y) :: rest)))) : own_WP p e below s Q k n (T.setTop (mkF m pc ls (.int y :: .int x :: rest))) := by
  subst hpc
  exact own_of (fun t q => XS.idiv X.here hx rfl hd rfl hy q) w
theorem own_irem (X : Stand p l e R s m args below meth c T locs cells slots) (hx : p.tables.exec = Jvm.exec) {x y : Int32} (hd : decode c.code pc = .ok (.irem, 1)) (hy : y ≠ 0) (hpc : pc + 1 = pc') (w : own_WP p e below s Q k n (T.setTop (mkF m pc' ls (.int (x % y) :: rest)))) : own_WP p e below s Q k n (T.setTop (mkF m pc ls (.int y :: .int x :: rest))) := by
  subst hpc
  exact own_of (fun t q => iremM X hx rfl hd rfl hy q) w
theorem own_ldiv (X : Stand p l e R s m args below meth c T locs cells slots) (hx : p.tables.exec = Jvm.exec) {x y : Int64} (hd : decode c.code pc = .ok (.ldiv, 1)) (hy : y ≠ 0) (hpc : pc + 1 = pc') (w : own_WP p e below s Q k n (T.setTop (mkF m pc' ls (.long (x / y) :: rest)))) : own_WP p e below s Q k n (T.setTop (mkF m pc ls (.long y :: .long x :: rest))) := by
  subst hpc
  exact own_of (fun t q => XS.ldiv X.here hx rfl hd rfl hy q) w
theorem own_lrem (X : Stand p l e R s m args below meth c T locs cells slots) (hx : p.tables.exec = Jvm.exec) {x y : Int64} (hd : decode c.code pc = .ok (.lrem, 1)) (hy : y ≠ 0) (hpc : pc + 1 = pc') (w : own_WP p e below s Q k n (T.setTop (mkF m pc' ls (.long (x % y) :: rest)))) : own_WP p e below s Q k n (T.setTop (mkF m pc ls (.long y :: .long x :: rest))) := by
  subst hpc
  exact own_of (fun t q => XS.lrem X.here hx rfl hd rfl hy ((lrem_mod x y).symm ▸ q)) w
theorem own_ineg (X : Stand p l e R s m args below meth c T locs cells slots) (hx : p.tables.exec = Jvm.exec) {x : Int32} (hd : decode c.code pc = .ok (.ineg, 1)) (hpc : pc + 1 = pc') (w : own_WP p e below s Q k n (T.setTop (mkF m pc' ls (.int (-x) :: rest)))) : own_WP p e below s Q k n (T.setTop (mkF m pc ls (.int x :: rest))) := by
  subst hpc
  exact own_of (fun t q => XS.ineg X.here hx rfl hd rfl q) w
theorem own_lneg (X : Stand p l e R s m args below meth c T locs cells slots) (hx : p.tables.exec = Jvm.exec) {x : Int64} (hd : decode c.code pc = .ok (.lneg, 1)) (hpc : pc + 1 = pc') (w : own_WP p e below s Q k n (T.setTop (mkF m pc' ls (.long (-x) :: rest)))) : own_WP p e below s Q k n (T.setTop (mkF m pc ls (.long x :: rest))) := by
  subst hpc
  exact own_of (fun t q => XS.lneg X.here hx rfl hd rfl q) w
theorem own_i2l (X : Stand p l e R s m args below meth c T locs cells slots) (hx : p.tables.exec = Jvm.exec) {x : Int32} (hd : decode c.code pc = .ok (.i2l, 1)) (hpc : pc + 1 = pc') (w : own_WP p e below s Q k n (T.setTop (mkF m pc' ls (.long (x.toInt64) :: rest)))) : own_WP p e below s Q k n (T.setTop (mkF m pc ls (.int x :: rest))) := by
  subst hpc
  exact own_of (fun t q => XS.i2l X.here hx rfl hd rfl q) w
theorem own_l2i (X : Stand p l e R s m args below meth c T locs cells slots) (hx : p.tables.exec = Jvm.exec) {x : Int64} (hd : decode c.code pc = .ok (.l2i, 1)) (hpc : pc + 1 = pc') (w : own_WP p e below s Q k n (T.setTop (mkF m pc' ls (.int (x.toInt32) :: rest)))) : own_WP p e below s Q k n (T.setTop (mkF m pc ls (.long x :: rest))) := by
  subst hpc
  exact own_of (fun t q => XS.l2i X.here hx rfl hd rfl q) w
theorem own_i2b (X : Stand p l e R s m args below meth c T locs cells slots) (hx : p.tables.exec = Jvm.exec) {x : Int32} (hd : decode c.code pc = .ok (.i2b, 1)) (hpc : pc + 1 = pc') (w : own_WP p e below s Q k n (T.setTop (mkF m pc' ls (.int (x.toInt8.toInt32) :: rest)))) : own_WP p e below s Q k n (T.setTop (mkF m pc ls (.int x :: rest))) := by
  subst hpc
  exact own_of (fun t q => XS.i2b X.here hx rfl hd rfl q) w
theorem own_i2s (X : Stand p l e R s m args below meth c T locs cells slots) (hx : p.tables.exec = Jvm.exec) {x : Int32} (hd : decode c.code pc = .ok (.i2s, 1)) (hpc : pc + 1 = pc') (w : own_WP p e below s Q k n (T.setTop (mkF m pc' ls (.int (x.toInt16.toInt32) :: rest)))) : own_WP p e below s Q k n (T.setTop (mkF m pc ls (.int x :: rest))) := by
  subst hpc
  exact own_of (fun t q => XS.i2s X.here hx rfl hd rfl q) w
theorem own_i2c (X : Stand p l e R s m args below meth c T locs cells slots) (hx : p.tables.exec = Jvm.exec) {x : Int32} (hd : decode c.code pc = .ok (.i2c, 1)) (hpc : pc + 1 = pc') (w : own_WP p e below s Q k n (T.setTop (mkF m pc' ls (.int (x.toUInt32.toUInt16.toUInt32.toInt32) :: rest)))) : own_WP p e below s Q k n (T.setTop (mkF m pc ls (.int x :: rest))) := by
  subst hpc
  exact own_of (fun t q => XS.i2c X.here hx rfl hd rfl q) w
theorem own_lcmp (X : Stand p l e R s m args below meth c T locs cells slots) (hx : p.tables.exec = Jvm.exec) {x y : Int64} (hd : decode c.code pc = .ok (.lcmp, 1)) (hpc : pc + 1 = pc') (w : own_WP p e below s Q k n (T.setTop (mkF m pc' ls (.int (lcmpW x y) :: rest)))) : own_WP p e below s Q k n (T.setTop (mkF m pc ls (.long y :: .long x :: rest))) := by
  subst hpc
  exact own_of (fun t q => XS.lcmp X.here hx rfl hd rfl q) w
theorem own_dup (X : Stand p l e R s m args below meth c T locs cells slots) (hx : p.tables.exec = Jvm.exec) {v : Value} (hd : decode c.code pc = .ok (.dup, 1)) (hv : v.category = 1) (hpc : pc + 1 = pc') (w : own_WP p e below s Q k n (T.setTop (mkF m pc' ls (v :: v :: rest)))) : own_WP p e below s Q k n (T.setTop (mkF m pc ls (v :: rest))) := by
  subst hpc
  exact own_of (fun t q => XS.dup X.here hx rfl hd rfl hv q) w
theorem own_pop (X : Stand p l e R s m args below meth c T locs cells slots) (hx : p.tables.exec = Jvm.exec) {v : Value} (hd : decode c.code pc = .ok (.pop, 1)) (hv : v.category = 1) (hpc : pc + 1 = pc') (w : own_WP p e below s Q k n (T.setTop (mkF m pc' ls rest))) : own_WP p e below s Q k n (T.setTop (mkF m pc ls (v :: rest))) := by
  subst hpc
  exact own_of (fun t q => XS.pop X.here hx rfl hd rfl hv q) w
theorem own_dup2 (X : Stand p l e R s m args below meth c T locs cells slots) (hx : p.tables.exec = Jvm.exec) {v1 v2 : Value} (hd : decode c.code pc = .ok (.dup2, 1)) (h1 : v1.category = 1) (h2 : v2.category = 1) (hpc : pc + 1 = pc') (w : own_WP p e below s Q k n (T.setTop (mkF m pc' ls (v1 :: v2 :: v1 :: v2 :: rest)))) : own_WP p e below s Q k n (T.setTop (mkF m pc ls (v1 :: v2 :: rest))) := by
  subst hpc
  refine own_of (fun t q => ?_) w
  jvm_step X.here [X.here.top, hx, hd, h1, h2]
  exact q
theorem own_goto (X : Stand p l e R s m args below meth c T locs cells slots) (hx : p.tables.exec = Jvm.exec) {o : Int} (hd : decode c.code pc = .ok (.goto o, 3)) (ho : 0 ≤ (pc : Int) + o) (hpc : ((pc : Int) + o).toNat = pc') (w : own_WP p e below s Q k n (T.setTop (mkF m pc' ls rest))) : own_WP p e below s Q k n (T.setTop (mkF m pc ls rest)) :=
  own_of (fun t q => XS.goto X.here hx rfl (pc0 := pc) (pc' := pc') rfl hd ho hpc q) w
theorem own_icmp_lt (X : Stand p l e R s m args below meth c T locs cells slots) (hx : p.tables.exec = Jvm.exec) {x y : Int32} {o : Int} {pf pt : Nat} (hd : decode c.code pc = .ok (.if_icmp .lt o, 3)) (hpf : pc + 3 = pf) (ho : 0 ≤ (pc : Int) + o) (hpt : ((pc : Int) + o).toNat = pt)
    (yes : x < y → own_WP p e below s Q k n (T.setTop (mkF m pt ls rest))) (no : ¬ x < y → own_WP p e below s Q k n (T.setTop (mkF m pf ls rest))) : own_WP p e below s Q k n (T.setTop (mkF m pc ls (.int y :: .int x :: rest))) := by
  subst hpf
  by_cases hq : x < y
  · exact own_of (fun t q => XS.icmpYes X.here hx rfl (pc0 := pc) (pc' := pt) rfl hd rfl ((tlt hq).1) ho hpt q) (yes hq)
  · exact own_of (fun t q => XS.icmpNo X.here hx rfl hd rfl ((flt hq).1) q) (no hq)
theorem own_if_lt (X : Stand p l e R s m args below meth c T locs cells slots) (hx : p.tables.exec = Jvm.exec) {x : Int32} {o : Int} {pf pt : Nat} (hd : decode c.code pc = .ok (.ifCond .lt o, 3)) (hpf : pc + 3 = pf) (ho : 0 ≤ (pc : Int) + o) (hpt : ((pc : Int) + o).toNat = pt)
    (yes : x < 0 → own_WP p e below s Q k n (T.setTop (mkF m pt ls rest))) (no : ¬ x < 0 → own_WP p e below s Q k n (T.setTop (mkF m pf ls rest))) : own_WP p e below s Q k n (T.setTop (mkF m pc ls (.int x :: rest))) := by
  subst hpf
  by_cases hq : x < 0
  · exact own_of (fun t q => XS.ifYes X.here hx rfl (pc0 := pc) (pc' := pt) rfl hd rfl ((if0 _ _).trans (tlt hq).1) ho hpt q) (yes hq)
  · exact own_of (fun t q => XS.ifNo X.here hx rfl hd rfl ((if0 _ _).trans (flt hq).1) q) (no hq)
theorem own_ifl_lt (X : Stand p l e R s m args below meth c T locs cells slots) (hx : p.tables.exec = Jvm.exec) {x y : Int64} {o : Int} {pf pt : Nat} (hd : decode c.code pc = .ok (.ifCond .lt o, 3)) (hpf : pc + 3 = pf) (ho : 0 ≤ (pc : Int) + o) (hpt : ((pc : Int) + o).toNat = pt)
    (yes : x < y → own_WP p e below s Q k n (T.setTop (mkF m pt ls rest))) (no : ¬ x < y → own_WP p e below s Q k n (T.setTop (mkF m pf ls rest))) : own_WP p e below s Q k n (T.setTop (mkF m pc ls (.int (lcmpW x y) :: rest))) := by
  subst hpf
  by_cases hq : x < y
  · exact own_of (fun t q => XS.ifYes X.here hx rfl (pc0 := pc) (pc' := pt) rfl hd rfl ((if0 _ _).trans (tlt ((lw_lt x y).mpr hq)).1) ho hpt q) (yes hq)
  · exact own_of (fun t q => XS.ifNo X.here hx rfl hd rfl ((if0 _ _).trans (flt (fun z => hq ((lw_lt x y).mp z))).1) q) (no hq)
theorem own_icmp_ge (X : Stand p l e R s m args below meth c T locs cells slots) (hx : p.tables.exec = Jvm.exec) {x y : Int32} {o : Int} {pf pt : Nat} (hd : decode c.code pc = .ok (.if_icmp .ge o, 3)) (hpf : pc + 3 = pf) (ho : 0 ≤ (pc : Int) + o) (hpt : ((pc : Int) + o).toNat = pt)
    (yes : ¬ x < y → own_WP p e below s Q k n (T.setTop (mkF m pt ls rest))) (no : x < y → own_WP p e below s Q k n (T.setTop (mkF m pf ls rest))) : own_WP p e below s Q k n (T.setTop (mkF m pc ls (.int y :: .int x :: rest))) := by
  subst hpf
  by_cases hq : ¬ x < y
  · exact own_of (fun t q => XS.icmpYes X.here hx rfl (pc0 := pc) (pc' := pt) rfl hd rfl ((flt hq).2.1) ho hpt q) (yes hq)
  · exact own_of (fun t q => XS.icmpNo X.here hx rfl hd rfl ((tlt (Classical.not_not.mp hq)).2.1) q) (no (Classical.not_not.mp hq))
theorem own_if_ge (X : Stand p l e R s m args below meth c T locs cells slots) (hx : p.tables.exec = Jvm.exec) {x : Int32} {o : Int} {pf pt : Nat} (hd : decode c.code pc = .ok (.ifCond .ge o, 3)) (hpf : pc + 3 = pf) (ho : 0 ≤ (pc : Int) + o) (hpt : ((pc : Int) + o).toNat = pt)
    (yes : ¬ x < 0 → own_WP p e below s Q k n (T.setTop (mkF m pt ls rest))) (no : x < 0 → own_WP p e below s Q k n (T.setTop (mkF m pf ls rest))) : own_WP p e below s Q k n (T.setTop (mkF m pc ls (.int x :: rest))) := by
  subst hpf
  by_cases hq : ¬ x < 0
  · exact own_of (fun t q => XS.ifYes X.here hx rfl (pc0 := pc) (pc' := pt) rfl hd rfl ((if0 _ _).trans (flt hq).2.1) ho hpt q) (yes hq)
  · exact own_of (fun t q => XS.ifNo X.here hx rfl hd rfl ((if0 _ _).trans (tlt (Classical.not_not.mp hq)).2.1) q) (no (Classical.not_not.mp hq))
theorem own_ifl_ge (X : Stand p l e R s m args below meth c T locs cells slots) (hx : p.tables.exec = Jvm.exec) {x y : Int64} {o : Int} {pf pt : Nat} (hd : decode c.code pc = .ok (.ifCond .ge o, 3)) (hpf : pc + 3 = pf) (ho : 0 ≤ (pc : Int) + o) (hpt : ((pc : Int) + o).toNat = pt)
    (yes : ¬ x < y → own_WP p e below s Q k n (T.setTop (mkF m pt ls rest))) (no : x < y → own_WP p e below s Q k n (T.setTop (mkF m pf ls rest))) : own_WP p e below s Q k n (T.setTop (mkF m pc ls (.int (lcmpW x y) :: rest))) := by
  subst hpf
  by_cases hq : ¬ x < y
  · exact own_of (fun t q => XS.ifYes X.here hx rfl (pc0 := pc) (pc' := pt) rfl hd rfl ((if0 _ _).trans (flt (fun z => hq ((lw_lt x y).mp z))).2.1) ho hpt q) (yes hq)
  · exact own_of (fun t q => XS.ifNo X.here hx rfl hd rfl ((if0 _ _).trans (tlt ((lw_lt x y).mpr (Classical.not_not.mp hq))).2.1) q) (no (Classical.not_not.mp hq))
theorem own_icmp_gt (X : Stand p l e R s m args below meth c T locs cells slots) (hx : p.tables.exec = Jvm.exec) {x y : Int32} {o : Int} {pf pt : Nat} (hd : decode c.code pc = .ok (.if_icmp .gt o, 3)) (hpf : pc + 3 = pf) (ho : 0 ≤ (pc : Int) + o) (hpt : ((pc : Int) + o).toNat = pt)
    (yes : y < x → own_WP p e below s Q k n (T.setTop (mkF m pt ls rest))) (no : ¬ y < x → own_WP p e below s Q k n (T.setTop (mkF m pf ls rest))) : own_WP p e below s Q k n (T.setTop (mkF m pc ls (.int y :: .int x :: rest))) := by
  subst hpf
  by_cases hq : y < x
  · exact own_of (fun t q => XS.icmpYes X.here hx rfl (pc0 := pc) (pc' := pt) rfl hd rfl ((tlt hq).2.2.1) ho hpt q) (yes hq)
  · exact own_of (fun t q => XS.icmpNo X.here hx rfl hd rfl ((flt hq).2.2.1) q) (no hq)
theorem own_if_gt (X : Stand p l e R s m args below meth c T locs cells slots) (hx : p.tables.exec = Jvm.exec) {x : Int32} {o : Int} {pf pt : Nat} (hd : decode c.code pc = .ok (.ifCond .gt o, 3)) (hpf : pc + 3 = pf) (ho : 0 ≤ (pc : Int) + o) (hpt : ((pc : Int) + o).toNat = pt)
    (yes : 0 < x → own_WP p e below s Q k n (T.setTop (mkF m pt ls rest))) (no : ¬ 0 < x → own_WP p e below s Q k n (T.setTop (mkF m pf ls rest))) : own_WP p e below s Q k n (T.setTop (mkF m pc ls (.int x :: rest))) := by
  subst hpf
  by_cases hq : 0 < x
  · exact own_of (fun t q => XS.ifYes X.here hx rfl (pc0 := pc) (pc' := pt) rfl hd rfl ((if0 _ _).trans (tlt hq).2.2.1) ho hpt q) (yes hq)
  · exact own_of (fun t q => XS.ifNo X.here hx rfl hd rfl ((if0 _ _).trans (flt hq).2.2.1) q) (no hq)
theorem own_ifl_gt (X : Stand p l e R s m args below meth c T locs cells slots) (hx : p.tables.exec = Jvm.exec) {x y : Int64} {o : Int} {pf pt : Nat} (hd : decode c.code pc = .ok (.ifCond .gt o, 3)) (hpf : pc + 3 = pf) (ho : 0 ≤ (pc : Int) + o) (hpt : ((pc : Int) + o).toNat = pt)
    (yes : y < x → own_WP p e below s Q k n (T.setTop (mkF m pt ls rest))) (no : ¬ y < x → own_WP p e below s Q k n (T.setTop (mkF m pf ls rest))) : own_WP p e below s Q k n (T.setTop (mkF m pc ls (.int (lcmpW x y) :: rest))) := by
  subst hpf
  by_cases hq : y < x
  · exact own_of (fun t q => XS.ifYes X.here hx rfl (pc0 := pc) (pc' := pt) rfl hd rfl ((if0 _ _).trans (tlt ((lw_gt x y).mpr hq)).2.2.1) ho hpt q) (yes hq)
  · exact own_of (fun t q => XS.ifNo X.here hx rfl hd rfl ((if0 _ _).trans (flt (fun z => hq ((lw_gt x y).mp z))).2.2.1) q) (no hq)
theorem own_icmp_le (X : Stand p l e R s m args below meth c T locs cells slots) (hx : p.tables.exec = Jvm.exec) {x y : Int32} {o : Int} {pf pt : Nat} (hd : decode c.code pc = .ok (.if_icmp .le o, 3)) (hpf : pc + 3 = pf) (ho : 0 ≤ (pc : Int) + o) (hpt : ((pc : Int) + o).toNat = pt)
    (yes : ¬ y < x → own_WP p e below s Q k n (T.setTop (mkF m pt ls rest))) (no : y < x → own_WP p e below s Q k n (T.setTop (mkF m pf ls rest))) : own_WP p e below s Q k n (T.setTop (mkF m pc ls (.int y :: .int x :: rest))) := by
  subst hpf
  by_cases hq : ¬ y < x
  · exact own_of (fun t q => XS.icmpYes X.here hx rfl (pc0 := pc) (pc' := pt) rfl hd rfl ((flt hq).2.2.2) ho hpt q) (yes hq)
  · exact own_of (fun t q => XS.icmpNo X.here hx rfl hd rfl ((tlt (Classical.not_not.mp hq)).2.2.2) q) (no (Classical.not_not.mp hq))
theorem own_if_le (X : Stand p l e R s m args below meth c T locs cells slots) (hx : p.tables.exec = Jvm.exec) {x : Int32} {o : Int} {pf pt : Nat} (hd : decode c.code pc = .ok (.ifCond .le o, 3)) (hpf : pc + 3 = pf) (ho : 0 ≤ (pc : Int) + o) (hpt : ((pc : Int) + o).toNat = pt)
    (yes : ¬ 0 < x → own_WP p e below s Q k n (T.setTop (mkF m pt ls rest))) (no : 0 < x → own_WP p e below s Q k n (T.setTop (mkF m pf ls rest))) : own_WP p e below s Q k n (T.setTop (mkF m pc ls (.int x :: rest))) := by
  subst hpf
  by_cases hq : ¬ 0 < x
  · exact own_of (fun t q => XS.ifYes X.here hx rfl (pc0 := pc) (pc' := pt) rfl hd rfl ((if0 _ _).trans (flt hq).2.2.2) ho hpt q) (yes hq)
  · exact own_of (fun t q => XS.ifNo X.here hx rfl hd rfl ((if0 _ _).trans (tlt (Classical.not_not.mp hq)).2.2.2) q) (no (Classical.not_not.mp hq))
theorem own_ifl_le (X : Stand p l e R s m args below meth c T locs cells slots) (hx : p.tables.exec = Jvm.exec) {x y : Int64} {o : Int} {pf pt : Nat} (hd : decode c.code pc = .ok (.ifCond .le o, 3)) (hpf : pc + 3 = pf) (ho : 0 ≤ (pc : Int) + o) (hpt : ((pc : Int) + o).toNat = pt)
    (yes : ¬ y < x → own_WP p e below s Q k n (T.setTop (mkF m pt ls rest))) (no : y < x → own_WP p e below s Q k n (T.setTop (mkF m pf ls rest))) : own_WP p e below s Q k n (T.setTop (mkF m pc ls (.int (lcmpW x y) :: rest))) := by
  subst hpf
  by_cases hq : ¬ y < x
  · exact own_of (fun t q => XS.ifYes X.here hx rfl (pc0 := pc) (pc' := pt) rfl hd rfl ((if0 _ _).trans (flt (fun z => hq ((lw_gt x y).mp z))).2.2.2) ho hpt q) (yes hq)
  · exact own_of (fun t q => XS.ifNo X.here hx rfl hd rfl ((if0 _ _).trans (tlt ((lw_gt x y).mpr (Classical.not_not.mp hq))).2.2.2) q) (no (Classical.not_not.mp hq))
theorem own_icmp_eq (X : Stand p l e R s m args below meth c T locs cells slots) (hx : p.tables.exec = Jvm.exec) {x y : Int32} {o : Int} {pf pt : Nat} (hd : decode c.code pc = .ok (.if_icmp .eq o, 3)) (hpf : pc + 3 = pf) (ho : 0 ≤ (pc : Int) + o) (hpt : ((pc : Int) + o).toNat = pt)
    (yes : x = y → own_WP p e below s Q k n (T.setTop (mkF m pt ls rest))) (no : ¬ x = y → own_WP p e below s Q k n (T.setTop (mkF m pf ls rest))) : own_WP p e below s Q k n (T.setTop (mkF m pc ls (.int y :: .int x :: rest))) := by
  subst hpf
  by_cases hq : x = y
  · exact own_of (fun t q => XS.icmpYes X.here hx rfl (pc0 := pc) (pc' := pt) rfl hd rfl ((teq hq).1) ho hpt q) (yes hq)
  · exact own_of (fun t q => XS.icmpNo X.here hx rfl hd rfl ((feq hq).1) q) (no hq)
theorem own_if_eq (X : Stand p l e R s m args below meth c T locs cells slots) (hx : p.tables.exec = Jvm.exec) {x : Int32} {o : Int} {pf pt : Nat} (hd : decode c.code pc = .ok (.ifCond .eq o, 3)) (hpf : pc + 3 = pf) (ho : 0 ≤ (pc : Int) + o) (hpt : ((pc : Int) + o).toNat = pt)
    (yes : x = 0 → own_WP p e below s Q k n (T.setTop (mkF m pt ls rest))) (no : ¬ x = 0 → own_WP p e below s Q k n (T.setTop (mkF m pf ls rest))) : own_WP p e below s Q k n (T.setTop (mkF m pc ls (.int x :: rest))) := by
  subst hpf
  by_cases hq : x = 0
  · exact own_of (fun t q => XS.ifYes X.here hx rfl (pc0 := pc) (pc' := pt) rfl hd rfl ((if0 _ _).trans (teq hq).1) ho hpt q) (yes hq)
  · exact own_of (fun t q => XS.ifNo X.here hx rfl hd rfl ((if0 _ _).trans (feq hq).1) q) (no hq)
theorem own_ifl_eq (X : Stand p l e R s m args below meth c T locs cells slots) (hx : p.tables.exec = Jvm.exec) {x y : Int64} {o : Int} {pf pt : Nat} (hd : decode c.code pc = .ok (.ifCond .eq o, 3)) (hpf : pc + 3 = pf) (ho : 0 ≤ (pc : Int) + o) (hpt : ((pc : Int) + o).toNat = pt)
    (yes : x = y → own_WP p e below s Q k n (T.setTop (mkF m pt ls rest))) (no : ¬ x = y → own_WP p e below s Q k n (T.setTop (mkF m pf ls rest))) : own_WP p e below s Q k n (T.setTop (mkF m pc ls (.int (lcmpW x y) :: rest))) := by
  subst hpf
  by_cases hq : x = y
  · exact own_of (fun t q => XS.ifYes X.here hx rfl (pc0 := pc) (pc' := pt) rfl hd rfl ((if0 _ _).trans (teq ((lw_eq x y).mpr hq)).1) ho hpt q) (yes hq)
  · exact own_of (fun t q => XS.ifNo X.here hx rfl hd rfl ((if0 _ _).trans (feq (fun z => hq ((lw_eq x y).mp z))).1) q) (no hq)
theorem own_icmp_ne (X : Stand p l e R s m args below meth c T locs cells slots) (hx : p.tables.exec = Jvm.exec) {x y : Int32} {o : Int} {pf pt : Nat} (hd : decode c.code pc = .ok (.if_icmp .ne o, 3)) (hpf : pc + 3 = pf) (ho : 0 ≤ (pc : Int) + o) (hpt : ((pc : Int) + o).toNat = pt)
    (yes : ¬ x = y → own_WP p e below s Q k n (T.setTop (mkF m pt ls rest))) (no : x = y → own_WP p e below s Q k n (T.setTop (mkF m pf ls rest))) : own_WP p e below s Q k n (T.setTop (mkF m pc ls (.int y :: .int x :: rest))) := by
  subst hpf
  by_cases hq : ¬ x = y
  · exact own_of (fun t q => XS.icmpYes X.here hx rfl (pc0 := pc) (pc' := pt) rfl hd rfl ((feq hq).2) ho hpt q) (yes hq)
  · exact own_of (fun t q => XS.icmpNo X.here hx rfl hd rfl ((teq (Classical.not_not.mp hq)).2) q) (no (Classical.not_not.mp hq))
theorem own_if_ne (X : Stand p l e R s m args below meth c T locs cells slots) (hx : p.tables.exec = Jvm.exec) {x : Int32} {o : Int} {pf pt : Nat} (hd : decode c.code pc = .ok (.ifCond .ne o, 3)) (hpf : pc + 3 = pf) (ho : 0 ≤ (pc : Int) + o) (hpt : ((pc : Int) + o).toNat = pt)
    (yes : ¬ x = 0 → own_WP p e below s Q k n (T.setTop (mkF m pt ls rest))) (no : x = 0 → own_WP p e below s Q k n (T.setTop (mkF m pf ls rest))) : own_WP p e below s Q k n (T.setTop (mkF m pc ls (.int x :: rest))) := by
  subst hpf
  by_cases hq : ¬ x = 0
  · exact own_of (fun t q => XS.ifYes X.here hx rfl (pc0 := pc) (pc' := pt) rfl hd rfl ((if0 _ _).trans (feq hq).2) ho hpt q) (yes hq)
  · exact own_of (fun t q => XS.ifNo X.here hx rfl hd rfl ((if0 _ _).trans (teq (Classical.not_not.mp hq)).2) q) (no (Classical.not_not.mp hq))
theorem own_ifl_ne (X : Stand p l e R s m args below meth c T locs cells slots) (hx : p.tables.exec = Jvm.exec) {x y : Int64} {o : Int} {pf pt : Nat} (hd : decode c.code pc = .ok (.ifCond .ne o, 3)) (hpf : pc + 3 = pf) (ho : 0 ≤ (pc : Int) + o) (hpt : ((pc : Int) + o).toNat = pt)
    (yes : ¬ x = y → own_WP p e below s Q k n (T.setTop (mkF m pt ls rest))) (no : x = y → own_WP p e below s Q k n (T.setTop (mkF m pf ls rest))) : own_WP p e below s Q k n (T.setTop (mkF m pc ls (.int (lcmpW x y) :: rest))) := by
  subst hpf
  by_cases hq : ¬ x = y
  · exact own_of (fun t q => XS.ifYes X.here hx rfl (pc0 := pc) (pc' := pt) rfl hd rfl ((if0 _ _).trans (feq (fun z => hq ((lw_eq x y).mp z))).2) ho hpt q) (yes hq)
  · exact own_of (fun t q => XS.ifNo X.here hx rfl hd rfl ((if0 _ _).trans (teq ((lw_eq x y).mpr (Classical.not_not.mp hq))).2) q) (no (Classical.not_not.mp hq))
theorem own_getF (X : Stand p l e R s m args below meth c T locs cells slots) (hx : p.tables.exec = Jvm.exec) (hZ : Z.Warmed39 s.vm) {own R0 O nm d host : String} {idx : Nat} (hown : s.vm.findClass own = some m.cls) (w1 : (Jvm.Cond.fieldLink own idx R0 nm d).before a0 Z = true ∨ (Jvm.Cond.fieldLinkNest own idx R0 nm d host).before a0 Z = true) (via : Via Z R0 O nm d) (eT : T.heap = h) {b : Addr} {v : Value} (F : Fld Z h b O nm d v) (hd : decode c.code pc = .ok (.getfield idx, 3)) (hpc : pc + 3 = pc')
    (w : ∀ T', Stand p l e R s m args below meth c T' locs cells slots → T'.heap = h → own_WP p e below s Q k n (T'.setTop (mkF m pc' ls (v :: rest)))) : own_WP p e below s Q k n (T.setTop (mkF m pc ls (.ref b :: rest))) := by
  subst hpc
  obtain ⟨T', X', e', st⟩ := getF X hx hZ hown w1 via eT F (g := mkF m pc ls (.ref b :: rest)) rfl rfl hd
  exact own_of st (w T' X' e')
theorem own_putF (X : Stand p l e R s m args below meth c T locs cells slots) (hx : p.tables.exec = Jvm.exec) (hZ : Z.Warmed39 s.vm) {own R0 O nm d host C : String} {idx kk : Nat} {ty : FieldType} (hown : s.vm.findClass own = some m.cls) (w1 : (Jvm.Cond.fieldLink own idx R0 nm d).before a0 Z = true ∨ (Jvm.Cond.fieldLinkNest own idx R0 nm d host).before a0 Z = true) (via : Via Z R0 O nm d) (eT : T.heap = h) {b : Addr} {v old : Value} (F : Fld Z h b O nm d old) (E : Exa Z h b C) (L : (Jvm.Cond.lays C O nm d).before a0 Z = true ∨ ((Jvm.Cond.laysFinal C O nm d).before a0 Z = true ∧ own = O ∧ meth.name = "<init>")) (wi : (Jvm.Cond.instantiable C kk).before a0 Z = true) (hty : parseFieldDescriptor d = some ty) (hn : narrow ty v = v) (hf : fits ty v = true) (hd : decode c.code pc = .ok (.putfield idx, 3)) (hpc : pc + 3 = pc')
    (w : ∀ T' h', Stand p l e R s m args below meth c T' (locs ++ [⟨b, Jvm.RoadKit.slotOf Z O nm d⟩]) cells slots → T'.heap = h' → Wr h h' b (Jvm.RoadKit.slotOf Z O nm d) v → own_WP p e below s Q k n (T'.setTop (mkF m pc' ls rest))) : own_WP p e below s Q k n (T.setTop (mkF m pc ls (v :: .ref b :: rest))) := by
  subst hpc
  obtain ⟨T', h', X', e', W', st⟩ := putF X hx hZ hown w1 via eT F E L wi hty hn hf (g := mkF m pc ls (v :: .ref b :: rest)) rfl rfl hd
  exact own_of st (w T' h' X' e' W')
theorem own_new (X : Stand p l e R s m args below meth c T locs cells slots) (hx : p.tables.exec = Jvm.exec) (hZ : Z.Warmed39 s.vm) {own C : String} {idx nn : Nat} (hown : s.vm.findClass own = some m.cls) (w1 : (Jvm.Cond.classLink own idx C).before a0 Z = true) (wi : (Jvm.Cond.instantiable C nn).before a0 Z = true) (wz : (Jvm.Cond.initialized C).before a0 Z = true) (eT : T.heap = h) (hd : decode c.code pc = .ok (.new idx, 3)) (hc : cells + 1 ≤ R.cells) (hl : slots + nn ≤ R.slots) (hpc : pc + 3 = pc')
    (w : ∀ T' h' b, b = h.size → Stand p l e R s m args below meth c T' locs (cells + 1) (slots + nn) → T'.heap = h' → Ext h h' → Exa Z h' b C → (∀ {O nm d : String} {ty : FieldType}, Laid Z a0 C O nm d → parseFieldDescriptor d = some ty → Fld Z h' b O nm d (defaultValue ty)) → own_WP p e below s Q k n (T'.setTop (mkF m pc' ls (.ref b :: rest)))) : own_WP p e below s Q k n (T.setTop (mkF m pc ls rest)) := by
  subst hpc
  obtain ⟨T', h', X', e', E', A', D', -, st⟩ := newO X hx hZ hown w1 wi wz eT (g := mkF m pc ls rest) rfl hd hc hl
  exact own_of st (w T' h' _ rfl X' e' E' A' D')
theorem own_newP (X : Stand p l e R s m args below meth c T locs cells slots) (hx : p.tables.exec = Jvm.exec) (hZ : Z.Warmed39 s.vm) {aty : ArrayType} (w1 : (Jvm.Cond.arrayClass (newarray.typeOf aty)).before a0 Z = true) (eT : T.heap = h) (hd : decode c.code pc = .ok (.newarray aty, 2)) {z : Int32} (hz : ¬ z < 0) {cap : Nat} (hcap : z.toNatClampNeg ≤ cap) (hb : cap * 8 ≤ 536870912) (hc : cells + 1 ≤ R.cells) (hl : slots + cap ≤ R.slots) (hpc : pc + 2 = pc')
    (w : ∀ T' h' cA b, b = h.size → Stand p l e R s m args below meth c T' locs (cells + 1) (slots + cap) → T'.heap = h' → Ext h h' → Arr Z h' b (newA cA (newarray.typeOf aty) z) (newarray.typeOf aty) → own_WP p e below s Q k n (T'.setTop (mkF m pc' ls (.ref b :: rest)))) : own_WP p e below s Q k n (T.setTop (mkF m pc ls (.int z :: rest))) := by
  subst hpc
  obtain ⟨T', h', cA, X', e', E', A', st⟩ := newP X hx hZ w1 eT (g := mkF m pc ls (.int z :: rest)) rfl hd rfl hz hcap hb hc hl
  exact own_of st (w T' h' cA _ rfl X' e' E' A')
theorem own_initO (X : Stand p l e R s m args below meth c T locs cells slots) (hx : p.tables.exec = Jvm.exec) (hZ : Z.Warmed39 s.vm) {own : String} {idx : Nat} (hown : s.vm.findClass own = some m.cls) (w1 : (Jvm.Cond.methodLink own idx Lib.objectInit).before a0 Z = true) (w2 : (Jvm.Cond.instanceMethod Lib.objectInit).before a0 Z = true) (w3 : (Jvm.Cond.code Lib.objectInit ⟨#[0xb1]⟩ 1 none).before a0 Z = true) (eT : T.heap = h) (hsz : ls.size = c.maxLocals) {b : Addr} (hd : decode c.code pc = .ok (.invokespecial idx, 3)) (hf : 1 ≤ R.frames) {W : Nat} (hW : (rest.map fun v => v.category).sum ≤ W) (hl : W + 12 ≤ R.locals) (hpc : pc + 3 = pc')
    (w : ∀ T', Stand p l e R s m args below meth c T' locs cells slots → T'.heap = h → own_WP p e below s Q k n (T'.setTop (mkF m pc' ls rest))) : own_WP p e below s Q k n (T.setTop (mkF m pc ls (.ref b :: rest))) := by
  subst hpc
  obtain ⟨T', X', e', st⟩ := initO X hx hZ hown w1 w2 w3 eT (g := mkF m pc ls (.ref b :: rest)) rfl hsz rfl hd hf (W := W) (by show 2 * 0 + _ ≤ _; omega) hl
  exact own_of st (w T' X' e')
theorem own_callS (X : Stand p l e R s m args below meth c T locs cells slots) (hx : p.tables.exec = Jvm.exec) (hZ : Z.Warmed39 s.vm) {own : String} {idx : Nat} {y : MethodName} {bytes : ByteArray} {maxL : Nat} {ret : Option FieldType} {rm : Room} {as' : Array Value} {Q' : Option Value → Heap → List Loc → Prop} (hown : s.vm.findClass own = some m.cls) (w1 : (Jvm.Cond.methodLink own idx y).before a0 Z = true) (w2 : (Jvm.Cond.static y).before a0 Z = true) (w3 : (Jvm.Cond.initialized y.cls).before a0 Z = true) (w4 : (Jvm.Cond.code y bytes maxL ret).before a0 Z = true) (hy : y.cls ≠ "java/lang/invoke/MethodHandle" ∧ y.cls ≠ "java/lang/invoke/VarHandle")
    (C : own_Con l Z y bytes maxL ret rm as' h Q') (eT : T.heap = h) {ps : List FieldType} {rt : Option FieldType} (hpd : parseMethodDescriptor y.desc = some ⟨ps, rt⟩) (argsL rest : List Value) (ha : argsL.toArray = as') (hal : argsL.length = ps.length) {st : List Value} (hst : st = argsL.reverse ++ rest) {W : Nat} (hW : (rest.map fun v => v.category).sum ≤ W) (hf : rm.frames + 1 ≤ R.frames) (hl : W + (maxL + 11) + rm.locals ≤ R.locals) (hsz : ls.size = c.maxLocals) (hd : decode c.code pc = .ok (.invokestatic idx, 3)) (hc : cells + rm.cells ≤ R.cells) (hs : slots + rm.slots ≤ R.slots) (hpc : pc + 3 = pc')
    (w : ∀ v T' L, Stand p l e R s m args below meth c T' (locs ++ L) (cells + rm.cells) (slots + rm.slots) → Q' v T'.heap L → own_WP p e below s Q k n (T'.setTop (mkF m pc' ls (v.toList ++ rest)))) : own_WP p e below s Q k n (T.setTop (mkF m pc ls st)) := by
  subst hpc hst ha
  obtain ⟨v, vm1, ⟨T', L', k', n'⟩, -, X', ⟨Lc, hQ, l1, y1, z1⟩, stp⟩ := Jvm.LawKit.callS X hx (y := y) hown (mvT hZ w1) (mvT hZ w2) (mvT hZ w3) (mvT hZ w4) hy (backOf (W := W) (C []) hZ w4 w3 hf hl) (g := mkF m pc ls (argsL.reverse ++ rest)) rfl hsz (argsL := argsL) (rest := rest) (lenOf hpd hal) rfl (by show 2 * 0 + _ ≤ _; omega) hd (fun _ _ => ⟨rfl, eT, hc, hs⟩)
  dsimp only [Pt.U, Pt.locs, Pt.cells, Pt.slots] at X' l1 y1 z1 stp hQ
  subst l1 y1 z1
  exact own_of stp (w _ _ _ X' hQ)
theorem own_callN (X : Stand p l e R s m args below meth c T locs cells slots) (hx : p.tables.exec = Jvm.exec) (hZ : Z.Warmed39 s.vm) {own : String} {idx : Nat} {y : MethodName} {bytes : ByteArray} {maxL : Nat} {rm : Room} {as' : Array Value} {Q' : Option Value → Heap → List Loc → Prop} (hy1 : y.name = "<init>") (hown : s.vm.findClass own = some m.cls) (w1 : (Jvm.Cond.methodLink own idx y).before a0 Z = true) (w2 : (Jvm.Cond.instanceMethod y).before a0 Z = true) (w3 : (Jvm.Cond.initialized y.cls).before a0 Z = true) (w4 : (Jvm.Cond.code y bytes maxL none).before a0 Z = true) (hy : y.cls ≠ "java/lang/invoke/MethodHandle" ∧ y.cls ≠ "java/lang/invoke/VarHandle")
    (C : own_Con l Z y bytes maxL none rm as' h Q') (eT : T.heap = h) {ps : List FieldType} {rt : Option FieldType} (hpd : parseMethodDescriptor y.desc = some ⟨ps, rt⟩) (b : Addr) (argsL rest : List Value) (ha : (.ref b :: argsL).toArray = as') (hal : argsL.length = ps.length) {st : List Value} (hst : st = argsL.reverse ++ .ref b :: rest) {W : Nat} (hW : (rest.map fun v => v.category).sum ≤ W) (hf : rm.frames + 1 ≤ R.frames) (hl : W + (maxL + 11) + rm.locals ≤ R.locals) (hsz : ls.size = c.maxLocals) (hd : decode c.code pc = .ok (.invokespecial idx, 3)) (hc : cells + rm.cells ≤ R.cells) (hs : slots + rm.slots ≤ R.slots) (hpc : pc + 3 = pc')
    (w : ∀ v T' L, Stand p l e R s m args below meth c T' (locs ++ L) (cells + rm.cells) (slots + rm.slots) → Q' v T'.heap L → own_WP p e below s Q k n (T'.setTop (mkF m pc' ls (v.toList ++ rest)))) : own_WP p e below s Q k n (T.setTop (mkF m pc ls st)) := by
  subst hpc hst ha
  obtain ⟨v, vm1, ⟨T', L', k', n'⟩, -, X', ⟨Lc, hQ, l1, y1, z1⟩, stp⟩ := X.specialBack hx (y := y) hy1 hown (mvT hZ w1) (mvT hZ w2) (mvT hZ w4) hy (backOf (W := W) (C []) hZ w4 w3 hf hl) (g := mkF m pc ls (argsL.reverse ++ .ref b :: rest)) rfl hsz (Steps.refl _) (a := b) (argsL := argsL) (rest := rest) (lenOf hpd hal) rfl (by show 2 * 0 + _ ≤ _; omega) hd (fun _ _ => ⟨rfl, eT, hc, hs⟩)
  dsimp only [Pt.U, Pt.locs, Pt.cells, Pt.slots] at X' l1 y1 z1 stp hQ
  subst l1 y1 z1
  exact own_of (fun t q => stp.trans q) (w _ _ _ X' hQ)
theorem own_callV (X : Stand p l e R s m args below meth c T locs cells slots) (hx : p.tables.exec = Jvm.exec) (hZ : Z.Warmed39 s.vm) {own D : String} {idx : Nat} {y z : MethodName} {bytes : ByteArray} {maxL : Nat} {ret : Option FieldType} {rm : Room} {as' : Array Value} {Q' : Option Value → Heap → List Loc → Prop} (hown : s.vm.findClass own = some m.cls) (w1 : (Jvm.Cond.methodLink own idx y).before a0 Z = true) (wd : (Jvm.Cond.declares y).before a0 Z = true) (hnf : NotFace s y) (ws : (Jvm.Cond.selects D y z).before a0 Z = true) (w2 : (Jvm.Cond.instanceMethod z).before a0 Z = true) (w3 : (Jvm.Cond.initialized z.cls).before a0 Z = true) (w4 : (Jvm.Cond.code z bytes maxL ret).before a0 Z = true) (hy : y.cls ≠ "java/lang/invoke/MethodHandle" ∧ y.cls ≠ "java/lang/invoke/VarHandle") {b : Addr} (E : Exa Z h b D)
    (C : own_Con l Z z bytes maxL ret rm as' h Q') (eT : T.heap = h) {ps : List FieldType} {rt : Option FieldType} (hpd : parseMethodDescriptor y.desc = some ⟨ps, rt⟩) (argsL rest : List Value) (ha : (.ref b :: argsL).toArray = as') (hal : argsL.length = ps.length) {st : List Value} (hst : st = argsL.reverse ++ .ref b :: rest) {W : Nat} (hW : (rest.map fun v => v.category).sum ≤ W) (hf : rm.frames + 1 ≤ R.frames) (hl : W + (maxL + 11) + rm.locals ≤ R.locals) (hsz : ls.size = c.maxLocals) (hd : decode c.code pc = .ok (.invokevirtual idx, 3)) (hc : cells + rm.cells ≤ R.cells) (hs : slots + rm.slots ≤ R.slots) (hpc : pc + 3 = pc')
    (w : ∀ v T' L, Stand p l e R s m args below meth c T' (locs ++ L) (cells + rm.cells) (slots + rm.slots) → Q' v T'.heap L → own_WP p e below s Q k n (T'.setTop (mkF m pc' ls (v.toList ++ rest)))) : own_WP p e below s Q k n (T.setTop (mkF m pc ls st)) := by
  subst hpc hst ha
  obtain ⟨cq, kq, qa, qb, qc⟩ := isOf (T := T) hZ eT E
  obtain ⟨v, vm1, ⟨T', L', k', n'⟩, -, X', ⟨Lc, hQ, l1, y1, z1⟩, stp⟩ := X.virtualBack hx (y := y) (z := z) hown (mvT hZ w1) (mvT hZ wd) hnf (mvT hZ ws) (mvT hZ w2) hy (backOf (W := W) (C []) hZ w4 w3 hf hl) qa qc (g := mkF m pc ls (argsL.reverse ++ .ref b :: rest)) rfl hsz (Steps.refl _) (argsL := argsL) (rest := rest) (lenOf hpd hal) rfl (by show 2 * 0 + _ ≤ _; omega) hd (fun _ _ => ⟨rfl, eT, hc, hs⟩)
  dsimp only [Pt.U, Pt.locs, Pt.cells, Pt.slots] at X' l1 y1 z1 stp hQ
  subst l1 y1 z1
  exact own_of (fun t q => stp.trans q) (w _ _ _ X' hQ)

theorem own_laload (X : Stand p l e R s m args below meth c T locs cells slots) (hx : p.tables.exec = Jvm.exec) (hZ : Z.Warmed39 s.vm) (eT : T.heap = h) {b : Addr} {kk : ClassId} {z j : Int32} {vs : List Value} {dv v : Value} (F : Arv Z h b kk .long z vs dv) (hj : ¬ j < 0 ∧ j < z) (hv : vs.getD j.toNatClampNeg dv = v) (hd : decode c.code pc = .ok (.laload, 1)) (hpc : pc + 1 = pc') (w : own_WP p e below s Q k n (T.setTop (mkF m pc' ls (v :: rest)))) : own_WP p e below s Q k n (T.setTop (mkF m pc ls (.int j :: .ref b :: rest))) := by
  subst hpc
  obtain ⟨cl, A, q1, S, q3, H, G⟩ := F
  exact own_of (fun t q => X.laload hx (j := j) (v := v) (by rw [eT]; exact A.1) (State.isArrayOf_alike hZ.alike A.2.1) A.2.2 (inb_of S hj) (H.at (inb_of S hj) hv) (g := mkF m pc ls (.int j :: .ref b :: rest)) rfl rfl hd _ q) w
theorem own_baload (X : Stand p l e R s m args below meth c T locs cells slots) (hx : p.tables.exec = Jvm.exec) (hZ : Z.Warmed39 s.vm) (eT : T.heap = h) {b : Addr} {kk : ClassId} {z j : Int32} {vs : List Value} {dv v : Value} (F : Arv Z h b kk .byte z vs dv) (hj : ¬ j < 0 ∧ j < z) (hv : vs.getD j.toNatClampNeg dv = v) (hd : decode c.code pc = .ok (.baload, 1)) (hpc : pc + 1 = pc') (w : own_WP p e below s Q k n (T.setTop (mkF m pc' ls (v :: rest)))) : own_WP p e below s Q k n (T.setTop (mkF m pc ls (.int j :: .ref b :: rest))) := by
  subst hpc
  obtain ⟨cl, A, q1, S, q3, H, G⟩ := F
  exact own_of (fun t q => X.baloadBytes hx (j := j) (v := v) (by rw [eT]; exact A.1) (State.isArrayOf_alike hZ.alike A.2.1) A.2.2 (inb_of S hj) (H.at (inb_of S hj) hv) (g := mkF m pc ls (.int j :: .ref b :: rest)) rfl rfl hd _ q) w
theorem own_iaload (X : Stand p l e R s m args below meth c T locs cells slots) (hx : p.tables.exec = Jvm.exec) (hZ : Z.Warmed39 s.vm) (eT : T.heap = h) {b : Addr} {kk : ClassId} {z j : Int32} {vs : List Value} {dv v : Value} (F : Arv Z h b kk .int z vs dv) (hj : ¬ j < 0 ∧ j < z) (hv : vs.getD j.toNatClampNeg dv = v) (hd : decode c.code pc = .ok (.iaload, 1)) (hpc : pc + 1 = pc') (w : own_WP p e below s Q k n (T.setTop (mkF m pc' ls (v :: rest)))) : own_WP p e below s Q k n (T.setTop (mkF m pc ls (.int j :: .ref b :: rest))) := by
  subst hpc
  obtain ⟨cl, A, q1, S, q3, H, G⟩ := F
  exact own_of (fun t q => X.iaload hx (j := j) (v := v) (by rw [eT]; exact A.1) (State.isArrayOf_alike hZ.alike A.2.1) A.2.2 (inb_of S hj) (H.at (inb_of S hj) hv) (g := mkF m pc ls (.int j :: .ref b :: rest)) rfl rfl hd _ q) w
theorem own_caload (X : Stand p l e R s m args below meth c T locs cells slots) (hx : p.tables.exec = Jvm.exec) (hZ : Z.Warmed39 s.vm) (eT : T.heap = h) {b : Addr} {kk : ClassId} {z j : Int32} {vs : List Value} {dv v : Value} (F : Arv Z h b kk .char z vs dv) (hj : ¬ j < 0 ∧ j < z) (hv : vs.getD j.toNatClampNeg dv = v) (hd : decode c.code pc = .ok (.caload, 1)) (hpc : pc + 1 = pc') (w : own_WP p e below s Q k n (T.setTop (mkF m pc' ls (v :: rest)))) : own_WP p e below s Q k n (T.setTop (mkF m pc ls (.int j :: .ref b :: rest))) := by
  subst hpc
  obtain ⟨cl, A, q1, S, q3, H, G⟩ := F
  exact own_of (fun t q => X.caload hx (j := j) (v := v) (by rw [eT]; exact A.1) (State.isArrayOf_alike hZ.alike A.2.1) A.2.2 (inb_of S hj) (H.at (inb_of S hj) hv) (g := mkF m pc ls (.int j :: .ref b :: rest)) rfl rfl hd _ q) w
theorem own_lastore (X : Stand p l e R s m args below meth c T locs cells slots) (hx : p.tables.exec = Jvm.exec) (hZ : Z.Warmed39 s.vm) (eT : T.heap = h) {b : Addr} {kk : ClassId} {z j : Int32} {vs : List Value} {dv : Value} {x : Int64} (F : Arv Z h b kk .long z vs dv) (hj : ¬ j < 0 ∧ j < z) (i : Nat) (hi : j.toNatClampNeg = i) (hlen : i < vs.length) (hd : decode c.code pc = .ok (.lastore, 1)) (hpc : pc + 1 = pc') (w : ∀ T' h', Stand p l e R s m args below meth c T' (locs ++ [⟨b, j.toNatClampNeg⟩]) cells slots → T'.heap = h' → Wr h h' b j.toNatClampNeg (.long x) → Arv Z h' b kk .long z (vs.set i (.long x)) dv → own_WP p e below s Q k n (T'.setTop (mkF m pc' ls rest))) : own_WP p e below s Q k n (T.setTop (mkF m pc ls (.long x :: .int j :: .ref b :: rest))) := by
  subst hpc
  obtain ⟨cl, A, q1, S, q3, H, G⟩ := F
  obtain ⟨T', h', X', e', W', st⟩ := stJ X hx hZ eT A (j := j) (inb_of S hj) (g := mkF m pc ls (.long x :: .int j :: .ref b :: rest)) rfl rfl hd
  exact own_of st (w T' h' X' e' W' (Arv.set A q1 S q3 H G rfl W' i hi hlen))
theorem own_bastore (X : Stand p l e R s m args below meth c T locs cells slots) (hx : p.tables.exec = Jvm.exec) (hZ : Z.Warmed39 s.vm) (eT : T.heap = h) {b : Addr} {kk : ClassId} {z j : Int32} {vs : List Value} {dv : Value} {x : Int32} (F : Arv Z h b kk .byte z vs dv) (hj : ¬ j < 0 ∧ j < z) (i : Nat) (hi : j.toNatClampNeg = i) (hlen : i < vs.length) (hd : decode c.code pc = .ok (.bastore, 1)) (hpc : pc + 1 = pc') (w : ∀ T' h', Stand p l e R s m args below meth c T' (locs ++ [⟨b, j.toNatClampNeg⟩]) cells slots → T'.heap = h' → Wr h h' b j.toNatClampNeg (.int (nar .byte x)) → Arv Z h' b kk .byte z (vs.set i (.int (nar .byte x))) dv → own_WP p e below s Q k n (T'.setTop (mkF m pc' ls rest))) : own_WP p e below s Q k n (T.setTop (mkF m pc ls (.int x :: .int j :: .ref b :: rest))) := by
  subst hpc
  obtain ⟨cl, A, q1, S, q3, H, G⟩ := F
  obtain ⟨T', h', X', e', W', st⟩ := stB X hx hZ eT A (j := j) (inb_of S hj) (g := mkF m pc ls (.int x :: .int j :: .ref b :: rest)) rfl rfl hd
  exact own_of st (w T' h' X' e' W' (Arv.set A q1 S q3 H G (fits_nar_byte x) W' i hi hlen))
theorem own_iastore (X : Stand p l e R s m args below meth c T locs cells slots) (hx : p.tables.exec = Jvm.exec) (hZ : Z.Warmed39 s.vm) (eT : T.heap = h) {b : Addr} {kk : ClassId} {z j : Int32} {vs : List Value} {dv : Value} {x : Int32} (F : Arv Z h b kk .int z vs dv) (hj : ¬ j < 0 ∧ j < z) (i : Nat) (hi : j.toNatClampNeg = i) (hlen : i < vs.length) (hd : decode c.code pc = .ok (.iastore, 1)) (hpc : pc + 1 = pc') (w : ∀ T' h', Stand p l e R s m args below meth c T' (locs ++ [⟨b, j.toNatClampNeg⟩]) cells slots → T'.heap = h' → Wr h h' b j.toNatClampNeg (.int x) → Arv Z h' b kk .int z (vs.set i (.int x)) dv → own_WP p e below s Q k n (T'.setTop (mkF m pc' ls rest))) : own_WP p e below s Q k n (T.setTop (mkF m pc ls (.int x :: .int j :: .ref b :: rest))) := by
  subst hpc
  obtain ⟨cl, A, q1, S, q3, H, G⟩ := F
  obtain ⟨T', h', X', e', W', st⟩ := stI X hx hZ eT A (j := j) (inb_of S hj) (g := mkF m pc ls (.int x :: .int j :: .ref b :: rest)) rfl rfl hd
  exact own_of st (w T' h' X' e' W' (Arv.set A q1 S q3 H G rfl W' i hi hlen))
theorem own_arrlen (X : Stand p l e R s m args below meth c T locs cells slots) (hx : p.tables.exec = Jvm.exec) (hZ : Z.Warmed39 s.vm) (eT : T.heap = h) {b : Addr} {kk : ClassId} {z : Int32} {vs : List Value} {dv : Value} {ty : FieldType} (F : Arv Z h b kk ty z vs dv) (hd : decode c.code pc = .ok (.arraylength, 1)) (hpc : pc + 1 = pc') (w : own_WP p e below s Q k n (T.setTop (mkF m pc' ls (.int z :: rest)))) : own_WP p e below s Q k n (T.setTop (mkF m pc ls (.ref b :: rest))) := by
  subst hpc
  obtain ⟨cl, A, q1, S, q3, H, G⟩ := F
  refine own_of (fun t q => X.arraylength hx (by rw [eT]; exact A.1) (State.isArrayOf_alike hZ.alike A.2.1) (g := mkF m pc ls (.ref b :: rest)) rfl rfl hd _ ?_) w
  rw [len_of S q3]
  exact q
end OwnWP

theorem own_bvU (x : Int64) (q : Int32) (k : Nat) (hk : q.toBitVec.toNat % 64 = k) : ((x.toUInt64 >>> (q &&& 0x3f).toInt64.toUInt64).toInt64).toBitVec = x.toBitVec >>> k := by
  have h5 := (sm64 q k hk).2
  show x.toBitVec >>> ((q &&& 0x3f).toInt64.toBitVec % 64) = _
  rw [BitVec.ushiftRight_eq', BitVec.toNat_umod, (sm64 q k hk).1, BitVec.toNat_ofNat]
  congr 1
  show k % 2 ^ 64 % 64 = k
  omega
theorem own_bvL (x : Int64) (q : Int32) (k : Nat) (hk : q.toBitVec.toNat % 64 = k) : (x <<< (q &&& 0x3f).toInt64).toBitVec = x.toBitVec <<< k := by
  show x.toBitVec <<< ((q &&& 0x3f).toInt64.toBitVec.smod 64) = _
  rw [BitVec.shiftLeft_eq', (sm64 q k hk).1, smod64 k (sm64 q k hk).2]

def own_ref (w m n : Int64) : Int64 := (n * (w / m)) / 2 + (((n * (w / m)) % 2) * m + n * (w % m)) / (2 * m)
def own_adv (den sw sr wh re wh' re' : Int64) : Prop := (re + sr < den → wh' = wh + sw ∧ re' = re + sr) ∧ (¬ re + sr < den → wh' = wh + sw + 1 ∧ re' = re + sr - den)
def own_Inv (w m wh re : Int64) (n : Int) : Prop := n * w.toInt = 2 * (m.toInt * wh.toInt) + re.toInt ∧ 0 ≤ re.toInt ∧ re.toInt < 2 * m.toInt ∧ 0 ≤ wh.toInt ∧ wh.toInt ≤ m.toInt * wh.toInt
def own_Ok (w m : Int64) : Prop := 0 ≤ w.toInt ∧ w.toInt < 1152921504606846976 ∧ 1 ≤ m.toInt ∧ m.toInt ≤ 1152921504606846976
theorem own_nneg1 {y : Int64} (h : 0 < y.toInt) : y ≠ -1 := by rintro rfl; exact absurd h (by decide)
theorem own_div (x y : Int64) (h : 0 ≤ x.toInt) (hy : 0 < y.toInt) : (x / y).toInt = x.toInt / y.toInt := by
  rw [Int64.toInt_div_of_ne_right x y (own_nneg1 hy)]; exact Int.tdiv_eq_ediv_of_nonneg h
theorem own_mod (x y : Int64) (h : 0 ≤ x.toInt) : (x % y).toInt = x.toInt % y.toInt := by
  rw [Int64.toInt_mod]; exact Int.tmod_eq_emod_of_nonneg h
theorem own_mulpos {M x : Int} (hM : 1 ≤ M) (hx : 0 ≤ x) : x ≤ M * x := by
  have := Int.mul_le_mul_of_nonneg_right hM hx
  rwa [Int.one_mul] at this
theorem own_two (m : Int64) (h1 : 1 ≤ m.toInt) (h2 : m.toInt ≤ 1152921504606846976) : (2 * m).toInt = 2 * m.toInt := by
  have := c_lmul 2 m
  rw [show (2 : Int64).toInt = 2 from by decide] at this
  have := rng64 (2 * m)
  omega
theorem own_ab (w m : Int64) (H : own_Ok w m) : (w / m).toInt = w.toInt / m.toInt ∧ (w % m).toInt = w.toInt % m.toInt ∧ m.toInt * (w.toInt / m.toInt) + w.toInt % m.toInt = w.toInt ∧ 0 ≤ w.toInt % m.toInt ∧ w.toInt % m.toInt < m.toInt ∧ 0 ≤ w.toInt / m.toInt ∧ w.toInt / m.toInt ≤ m.toInt * (w.toInt / m.toInt) := by
  obtain ⟨h1, h2, h3, h4⟩ := H
  have q : 0 ≤ w.toInt / m.toInt := Int.ediv_nonneg h1 (by omega)
  exact ⟨own_div w m h1 (by omega), own_mod w m h1, Int.mul_ediv_add_emod _ _, Int.emod_nonneg _ (by omega), Int.emod_lt_of_pos _ (by omega), q, own_mulpos h3 q⟩
theorem own_init (w m : Int64) (H : own_Ok w m) : own_Inv w m (w / (2 * m)) (w % (2 * m)) 1 := by
  obtain ⟨h1, h2, h3, h4⟩ := H
  have d := own_two m h3 h4
  have e1 := own_div w (2 * m) h1 (by omega)
  have e2 := own_mod w (2 * m) h1
  have e3 := Int.mul_ediv_add_emod w.toInt (2 * m.toInt)
  have e4 := Int.emod_nonneg w.toInt (show 2 * m.toInt ≠ 0 by omega)
  have e5 := Int.emod_lt_of_pos w.toInt (show 0 < 2 * m.toInt by omega)
  rw [d] at e1 e2
  have e6 : 0 ≤ w.toInt / (2 * m.toInt) := Int.ediv_nonneg h1 (by omega)
  rw [Int.mul_assoc] at e3
  unfold own_Inv
  rw [e1, e2]
  exact ⟨by omega, e4, e5, e6, own_mulpos h3 e6⟩
theorem own_step (w m : Int64) (H : own_Ok w m) {wh re wh' re' : Int64} {n : Int} (hn : 1 ≤ n ∧ n ≤ 5) (I : own_Inv w m wh re n) (A : own_adv (2 * m) (w / m) (2 * (w % m)) wh re wh' re') : own_Inv w m wh' re' (n + 2) := by
  have H' := H
  obtain ⟨h1, h2, h3, h4⟩ := H
  obtain ⟨i1, i2, i3, i4, i5⟩ := I
  obtain ⟨a1, a2, a3, a4, a5, a6, a7⟩ := own_ab w m H'
  have d := own_two m h3 h4
  have r2 : (2 * (w % m)).toInt = 2 * (w % m).toInt := by
    have := c_lmul 2 (w % m)
    rw [show (2 : Int64).toInt = 2 from by decide] at this
    have := rng64 (2 * (w % m))
    omega
  have nw : n * w.toInt ≤ 5 * w.toInt := Int.mul_le_mul_of_nonneg_right hn.2 h1
  have s1 := c_ladd re (2 * (w % m))
  have s2 := rng64 (re + 2 * (w % m))
  have s3 := c_ladd wh (w / m)
  have s4 := rng64 (wh + w / m)
  have s5 := c_ladd (wh + w / m) 1
  have s6 := rng64 (wh + w / m + 1)
  have s7 := c_lsub (re + 2 * (w % m)) (2 * m)
  have s8 := rng64 (re + 2 * (w % m) - 2 * m)
  rw [show (1 : Int64).toInt = 1 from by decide] at s5
  have n2 : (n + 2) * w.toInt = n * w.toInt + 2 * w.toInt := Int.add_mul ..
  by_cases hc : re + 2 * (w % m) < 2 * m
  · obtain ⟨rfl, rfl⟩ := A.1 hc
    rw [Int64.lt_iff_toInt_lt] at hc
    have w1 : (wh + w / m).toInt = wh.toInt + (w.toInt / m.toInt) := by omega
    have p1 : m.toInt * (wh.toInt + w.toInt / m.toInt) = m.toInt * wh.toInt + m.toInt * (w.toInt / m.toInt) := Int.mul_add ..
    unfold own_Inv
    rw [w1, p1, n2]
    refine ⟨?_, ?_, ?_, ?_, ?_⟩ <;> omega
  · obtain ⟨rfl, rfl⟩ := A.2 hc
    rw [Int64.lt_iff_toInt_lt] at hc
    have w1 : (wh + w / m + 1).toInt = wh.toInt + (w.toInt / m.toInt) + 1 := by omega
    have p1 : m.toInt * (wh.toInt + w.toInt / m.toInt + 1) = m.toInt * wh.toInt + m.toInt * (w.toInt / m.toInt) + m.toInt := by rw [Int.mul_add, Int.mul_add, Int.mul_one]
    unfold own_Inv
    rw [w1, p1, n2]
    refine ⟨?_, ?_, ?_, ?_, ?_⟩ <;> omega
theorem own_uniq {M x y r r' : Int} (hM : 1 ≤ M) (h : 2 * (M * x) + r = 2 * (M * y) + r') (h1 : 0 ≤ r ∧ r < 2 * M) (h2 : 0 ≤ r' ∧ r' < 2 * M) : x = y := by
  rcases Int.lt_trichotomy x y with q | q | q
  · have := Int.mul_le_mul_of_nonneg_left (show x + 1 ≤ y by omega) (show 0 ≤ M by omega)
    rw [Int.mul_add, Int.mul_one] at this
    omega
  · exact q
  · have := Int.mul_le_mul_of_nonneg_left (show y + 1 ≤ x by omega) (show 0 ≤ M by omega)
    rw [Int.mul_add, Int.mul_one] at this
    omega
theorem own_refok (w m : Int64) (H : own_Ok w m) {wh re : Int64} (n : Int64) (N : Int) (hN : n.toInt = N) (hn : N = 1 ∨ N = 3 ∨ N = 5 ∨ N = 7) (I : own_Inv w m wh re N) : wh = own_ref w m n := by
  apply Int64.toInt_inj.mp
  have H' := H
  obtain ⟨h1, h2, h3, h4⟩ := H
  obtain ⟨i1, i2, i3, i4, i5⟩ := I
  obtain ⟨a1, a2, a3, a4, a5, a6, a7⟩ := own_ab w m H'
  have d := own_two m h3 h4
  have m1 := c_lmul n (w / m)
  have m2 := rng64 (n * (w / m))
  have m3 := c_lmul n (w % m)
  have m4 := rng64 (n * (w % m))
  rw [hN, a1] at m1
  rw [hN, a2] at m3
  have na : (n * (w / m)).toInt = N * (w.toInt / m.toInt) := by rcases hn with rfl | rfl | rfl | rfl <;> omega
  have nb : (n * (w % m)).toInt = N * (w.toInt % m.toInt) := by rcases hn with rfl | rfl | rfl | rfl <;> omega
  have np : 0 ≤ (n * (w / m)).toInt := by rw [na]; rcases hn with rfl | rfl | rfl | rfl <;> omega
  have c1 := own_div (n * (w / m)) 2 np (by decide)
  have c2 := own_mod (n * (w / m)) 2 np
  rw [show (2 : Int64).toInt = 2 from by decide] at c1 c2
  have e01 : ((n * (w / m)) % 2).toInt = 0 ∨ ((n * (w / m)) % 2).toInt = 1 := by omega
  have em : (((n * (w / m)) % 2) * m).toInt = ((n * (w / m)) % 2).toInt * m.toInt := by
    have x1 := c_lmul ((n * (w / m)) % 2) m
    have x2 := rng64 (((n * (w / m)) % 2) * m)
    rcases e01 with q | q <;> rw [q] at x1 ⊢ <;> omega
  have em2 : 0 ≤ ((n * (w / m)) % 2).toInt * m.toInt ∧ ((n * (w / m)) % 2).toInt * m.toInt ≤ m.toInt := by rcases e01 with q | q <;> rw [q] <;> omega
  have sm := c_ladd (((n * (w / m)) % 2) * m) (n * (w % m))
  have sr := rng64 (((n * (w / m)) % 2) * m + n * (w % m))
  have sv : (((n * (w / m)) % 2) * m + n * (w % m)).toInt = ((n * (w / m)) % 2).toInt * m.toInt + N * (w.toInt % m.toInt) := by rcases hn with rfl | rfl | rfl | rfl <;> omega
  have sp : 0 ≤ (((n * (w / m)) % 2) * m + n * (w % m)).toInt := by rw [sv]; rcases hn with rfl | rfl | rfl | rfl <;> omega
  have qd := own_div (((n * (w / m)) % 2) * m + n * (w % m)) (2 * m) sp (by omega)
  rw [d] at qd
  have q1 := Int.mul_ediv_add_emod (((n * (w / m)) % 2) * m + n * (w % m)).toInt (2 * m.toInt)
  have q2 := Int.emod_nonneg (((n * (w / m)) % 2) * m + n * (w % m)).toInt (show 2 * m.toInt ≠ 0 by omega)
  have q3 := Int.emod_lt_of_pos (((n * (w / m)) % 2) * m + n * (w % m)).toInt (show 0 < 2 * m.toInt by omega)
  rw [← qd] at q1
  generalize hS : (((n * (w / m)) % 2) * m + n * (w % m)) = S at *
  generalize hE : ((n * (w / m)) % 2) = E at *
  generalize hC : (n * (w / m)) / 2 = C at *
  have tot := c_ladd C (S / (2 * m))
  have tor := rng64 (C + S / (2 * m))
  have hq0 : 0 ≤ (S / (2 * m)).toInt := by rw [qd]; exact Int.ediv_nonneg sp (by omega)
  have hq1 : (S / (2 * m)).toInt ≤ m.toInt * (S / (2 * m)).toInt := own_mulpos h3 hq0
  rw [Int.mul_assoc] at q1
  have tv : (C + S / (2 * m)).toInt = C.toInt + (S / (2 * m)).toInt := by rcases hn with rfl | rfl | rfl | rfl <;> omega
  have ref : own_ref w m n = C + S / (2 * m) := by unfold own_ref; rw [hC, hE, hS]
  rw [ref, tv]
  have mc : m.toInt * (N * (w.toInt / m.toInt)) = 2 * (m.toInt * C.toInt) + m.toInt * E.toInt := by
    have : N * (w.toInt / m.toInt) = 2 * C.toInt + E.toInt := by omega
    rw [this, Int.mul_add, Int.mul_left_comm]
  have mw : N * w.toInt = m.toInt * (N * (w.toInt / m.toInt)) + N * (w.toInt % m.toInt) := by
    rw [Int.mul_left_comm, ← Int.mul_add, a3]
  have me : E.toInt * m.toInt = m.toInt * E.toInt := Int.mul_comm ..
  refine own_uniq (r := re.toInt) (r' := S.toInt % (2 * m.toInt)) h3 ?_ ⟨i2, i3⟩ ⟨q2, q3⟩
  rw [Int.mul_add]
  omega
theorem own_ok1 (x : Int64) (q : Int32) : 0 ≤ (((x &&& (1152921504606846975 : Int64)).toUInt64 >>> (q &&& 0x3f).toInt64.toUInt64).toInt64).toInt ∧ (((x &&& (1152921504606846975 : Int64)).toUInt64 >>> (q &&& 0x3f).toInt64.toUInt64).toInt64).toInt < 1152921504606846976 := by
  have h1 := c_maskL x 1152921504606846975 60 (by decide) (by decide)
  rw [show ((2 ^ 60 : Nat) : Int) = 1152921504606846976 from rfl] at h1
  have h3 : 0 ≤ (x &&& (1152921504606846975 : Int64)).toInt ∧ (x &&& (1152921504606846975 : Int64)).toInt < 1152921504606846976 := by rw [h1]; omega
  generalize (x &&& (1152921504606846975 : Int64)) = y at *
  by_cases hk : q.toBitVec.toNat % 64 = 0
  · have := own_bvU y q 0 hk
    rw [BitVec.ushiftRight_zero] at this
    rw [Int64.toBitVec_inj.mp this]
    exact h3
  · rw [c_lushr _ _ _ rfl (by omega)]
    have e : y.toInt % 18446744073709551616 = y.toInt := by omega
    rw [e]
    have p : (1 : Int) ≤ ((2 ^ (q.toBitVec.toNat % 64) : Nat) : Int) := by
      have := Nat.pow_pos (n := q.toBitVec.toNat % 64) (show 0 < 2 by decide)
      omega
    have u1 := Int.ediv_nonneg h3.1 (show 0 ≤ ((2 ^ (q.toBitVec.toNat % 64) : Nat) : Int) by omega)
    have u2 := Int.ediv_le_self ((2 ^ (q.toBitVec.toNat % 64) : Nat) : Int) h3.1
    omega
theorem own_ok2 (w m : Int64) (s1 s2 : Int32) : own_Ok (((w &&& (1152921504606846975 : Int64)).toUInt64 >>> (s1 &&& 0x3f).toInt64.toUInt64).toInt64) ((((m &&& (1152921504606846975 : Int64)).toUInt64 >>> (s2 &&& 0x3f).toInt64.toUInt64).toInt64) + 1) := by
  have a := own_ok1 w s1
  have b := own_ok1 m s2
  have c := c_ladd (((m &&& (1152921504606846975 : Int64)).toUInt64 >>> (s2 &&& 0x3f).toInt64.toUInt64).toInt64) 1
  have d := rng64 ((((m &&& (1152921504606846975 : Int64)).toUInt64 >>> (s2 &&& 0x3f).toInt64.toUInt64).toInt64) + 1)
  rw [show (1 : Int64).toInt = 1 from by decide] at c
  exact ⟨a.1, a.2, by omega, by omega⟩
theorem own_nz {w m : Int64} (H : own_Ok w m) : m ≠ 0 ∧ (2 : Int64) * m ≠ 0 := by
  obtain ⟨h1, h2, h3, h4⟩ := H
  have d := own_two m h3 h4
  refine ⟨?_, ?_⟩
  · rintro rfl; exact absurd h3 (by decide)
  · intro q; rw [q] at d; have : (0 : Int64).toInt = 0 := by decide
    omega

theorem d1_0 : decode prog_96_method_1_code 0 = .ok (.aload_n 0, 1) := by decide +kernel
theorem d1_1 : decode prog_96_method_1_code 1 = .ok (.invokespecial 1, 3) := by decide +kernel
theorem d1_4 : decode prog_96_method_1_code 4 = .ok (.aload_n 0, 1) := by decide +kernel
theorem d1_5 : decode prog_96_method_1_code 5 = .ok (.ldc2_w 7, 3) := by decide +kernel
theorem d1_8 : decode prog_96_method_1_code 8 = .ok (.lload_n 3, 1) := by decide +kernel
theorem d1_9 : decode prog_96_method_1_code 9 = .ok (.lmul, 1) := by decide +kernel
theorem d1_10 : decode prog_96_method_1_code 10 = .ok (.putfield 9, 3) := by decide +kernel
theorem d1_13 : decode prog_96_method_1_code 13 = .ok (.aload_n 0, 1) := by decide +kernel
theorem d1_14 : decode prog_96_method_1_code 14 = .ok (.lload_n 1, 1) := by decide +kernel
theorem d1_15 : decode prog_96_method_1_code 15 = .ok (.lload_n 3, 1) := by decide +kernel
theorem d1_16 : decode prog_96_method_1_code 16 = .ok (.ldiv, 1) := by decide +kernel
theorem d1_17 : decode prog_96_method_1_code 17 = .ok (.putfield 15, 3) := by decide +kernel
theorem d1_20 : decode prog_96_method_1_code 20 = .ok (.aload_n 0, 1) := by decide +kernel
theorem d1_21 : decode prog_96_method_1_code 21 = .ok (.ldc2_w 7, 3) := by decide +kernel
theorem d1_24 : decode prog_96_method_1_code 24 = .ok (.lload_n 1, 1) := by decide +kernel
theorem d1_25 : decode prog_96_method_1_code 25 = .ok (.lload_n 3, 1) := by decide +kernel
theorem d1_26 : decode prog_96_method_1_code 26 = .ok (.lrem, 1) := by decide +kernel
theorem d1_27 : decode prog_96_method_1_code 27 = .ok (.lmul, 1) := by decide +kernel
theorem d1_28 : decode prog_96_method_1_code 28 = .ok (.putfield 18, 3) := by decide +kernel
theorem d1_31 : decode prog_96_method_1_code 31 = .ok (.aload_n 0, 1) := by decide +kernel
theorem d1_32 : decode prog_96_method_1_code 32 = .ok (.lload_n 1, 1) := by decide +kernel
theorem d1_33 : decode prog_96_method_1_code 33 = .ok (.aload_n 0, 1) := by decide +kernel
theorem d1_34 : decode prog_96_method_1_code 34 = .ok (.getfield 9, 3) := by decide +kernel
theorem d1_37 : decode prog_96_method_1_code 37 = .ok (.ldiv, 1) := by decide +kernel
theorem d1_38 : decode prog_96_method_1_code 38 = .ok (.putfield 21, 3) := by decide +kernel
theorem d1_41 : decode prog_96_method_1_code 41 = .ok (.aload_n 0, 1) := by decide +kernel
theorem d1_42 : decode prog_96_method_1_code 42 = .ok (.lload_n 1, 1) := by decide +kernel
theorem d1_43 : decode prog_96_method_1_code 43 = .ok (.aload_n 0, 1) := by decide +kernel
theorem d1_44 : decode prog_96_method_1_code 44 = .ok (.getfield 9, 3) := by decide +kernel
theorem d1_47 : decode prog_96_method_1_code 47 = .ok (.lrem, 1) := by decide +kernel
theorem d1_48 : decode prog_96_method_1_code 48 = .ok (.putfield 24, 3) := by decide +kernel
theorem d1_51 : decode prog_96_method_1_code 51 = .ok (.return_, 1) := by decide +kernel
theorem pn_1 : plainFor (⟨"com/example/violetear/violetear/replay/EvenFetches", "<init>", "(JJ)V"⟩ : MethodName) = true := plainFor_of_name (by first | (simp [plainName, overriddenIn]; done) | decide +kernel)
theorem ef_con1 (m : MethodId) (a1 : Addr) (w1 : Int64) (w2 : Int64) : entryFrame m #[(.ref a1), (.long w1), (.long w2)] 5 = mkF m 0 #[.val (.ref a1), .val (.long w1), .second, .val (.long w2), .second] [] := by first | (simp [entryFrame, mkF, argsToLocals, Value.category]; done) | rfl
set_option maxRecDepth 65536 in
set_option maxHeartbeats 4000000 in
theorem con1 (l : Launch) (Z : State) (a0 : Array Value) (hw : ∀ d ∈ tables_1, d.before a0 Z = true) (a1 : Addr) (w1 : Int64) (w2 : Int64) (h0 : Heap) (n0 : Nat) (Z0 : n0 ≤ h0.size) (E1 : Exa Z h0 a1 "com/example/violetear/violetear/replay/EvenFetches") (F_denominator : Fld Z h0 a1 "com/example/violetear/violetear/replay/EvenFetches" "denominator" "J" (.long (0 : Int64))) (F_stepWhole : Fld Z h0 a1 "com/example/violetear/violetear/replay/EvenFetches" "stepWhole" "J" (.long (0 : Int64))) (F_stepRest : Fld Z h0 a1 "com/example/violetear/violetear/replay/EvenFetches" "stepRest" "J" (.long (0 : Int64))) (F_whole : Fld Z h0 a1 "com/example/violetear/violetear/replay/EvenFetches" "whole" "J" (.long (0 : Int64))) (F_rest : Fld Z h0 a1 "com/example/violetear/violetear/replay/EvenFetches" "rest" "J" (.long (0 : Int64))) (g_a1 : n0 ≤ a1) (hm : w2 ≠ 0) (hm2 : (2 : Int64) * w2 ≠ 0) :
    own_Con l Z (⟨"com/example/violetear/violetear/replay/EvenFetches", "<init>", "(JJ)V"⟩ : MethodName) prog_96_method_1_code 5 none ({ frames := 1, cells := 0, slots := 0, locals := 12 } : Room) #[(.ref a1), (.long w1), (.long w2)] h0 (fun v h L => v = none ∧ Fr n0 L ∧ Keep h0 h [a1] ∧ Exa Z h a1 "com/example/violetear/violetear/replay/EvenFetches" ∧ Fld Z h a1 "com/example/violetear/violetear/replay/EvenFetches" "denominator" "J" (.long (2 * w2)) ∧ Fld Z h a1 "com/example/violetear/violetear/replay/EvenFetches" "stepWhole" "J" (.long (w1 / w2)) ∧ Fld Z h a1 "com/example/violetear/violetear/replay/EvenFetches" "stepRest" "J" (.long (2 * (w1 % w2))) ∧ Fld Z h a1 "com/example/violetear/violetear/replay/EvenFetches" "whole" "J" (.long (w1 / (2 * w2))) ∧ Fld Z h a1 "com/example/violetear/violetear/replay/EvenFetches" "rest" "J" (.long (w1 % (2 * w2)))) := by
  refine own_Con_of pn_1 ?_
  intro p e s m below meth c s₁ X0 hx hby hml hret hlk hnm hown hZ e0
  have hown : s.vm.findClass "com/example/violetear/violetear/replay/EvenFetches" = some m.cls := hown
  have hml : c.maxLocals = 5 := hml
  have N0 := Fr.nil n0
  show own_WP _ _ _ _ _ _ _ (s₁.setTop (entryFrame m #[(.ref a1), (.long w1), (.long w2)] 5))
  rw [ef_con1 m a1 w1 w2]
  refine own_aloadN (pc' := 1) X0 hx (hb hby d1_0) rfl rfl rfl ?_
  refine own_initO (pc' := 4) (W := 0) X0 hx hZ hown (own_w hw 7 rfl) (own_w hw 8 rfl) (own_w hw 9 rfl) e0 (by rw [hml]; rfl) (hb hby d1_1) (by decide) (Nat.le_of_eq rfl) (by decide) rfl ?_
  intro T1 X1 e1
  refine own_aloadN (pc' := 5) X1 hx (hb hby d1_4) rfl rfl rfl ?_
  refine own_ldc2Long (pc' := 8) X1 hx hZ hown (own_w hw 10 rfl) (hb hby d1_5) rfl ?_
  refine own_lloadN (pc' := 9) X1 hx (hb hby d1_8) rfl rfl ?_
  refine own_lmul (pc' := 10) X1 hx (hb hby d1_9) rfl ?_
  obtain ⟨v3, hv3⟩ : ∃ z : Int64, z = ((2 : Int64) * w2) := ⟨_, rfl⟩
  rw [← hv3]
  refine own_putF (pc' := 13) X1 hx hZ hown (host := "") (Or.inl (own_w hw 11 rfl)) Via.refl e1 F_denominator E1 (Or.inr ⟨(own_w hw 12 rfl), rfl, hnm⟩) (own_w hw 2 rfl) (ty := .long) (by decide) rfl rfl (hb hby d1_10) rfl ?_
  intro T2 h2 X2 e2 W2
  have z2 : n0 ≤ h2.size := Nat.le_trans Z0 (Keep.of_wr W2).1
  have F2 := F_denominator.same W2
  have N2 := Fr.snoc X2 N0 g_a1
  have K2 : Keep h0 h2 [a1] := (Keep.refl h0 [a1]).wr W2 (Or.inl (List.mem_of_getElem? (i := 0) rfl))
  refine own_aloadN (pc' := 14) X2 hx (hb hby d1_13) rfl rfl rfl ?_
  refine own_lloadN (pc' := 15) X2 hx (hb hby d1_14) rfl rfl ?_
  refine own_lloadN (pc' := 16) X2 hx (hb hby d1_15) rfl rfl ?_
  refine own_ldiv (pc' := 17) X2 hx (hb hby d1_16) hm rfl ?_
  have f4 := (F_stepWhole.other W2 (Or.inr (slot_ne (Or.inr (own_w hw 14 rfl)) (Or.inr (own_w hw 12 rfl)) (by decide) (t := .long) (t' := .long) (by decide +kernel) (by decide +kernel))))
  have f5 := (E1.wr W2)
  obtain ⟨v7, hv7⟩ : ∃ z : Int64, z = (w1 / w2) := ⟨_, rfl⟩
  rw [← hv7]
  refine own_putF (pc' := 20) X2 hx hZ hown (host := "") (Or.inl (own_w hw 13 rfl)) Via.refl e2 f4 f5 (Or.inr ⟨(own_w hw 14 rfl), rfl, hnm⟩) (own_w hw 2 rfl) (ty := .long) (by decide) rfl rfl (hb hby d1_17) rfl ?_
  intro T6 h6 X6 e6 W6
  have z6 : n0 ≤ h6.size := Nat.le_trans z2 (Keep.of_wr W6).1
  have F6 := f4.same W6
  have N6 := Fr.snoc X6 N2 g_a1
  have K6 : Keep h0 h6 [a1] := K2.wr W6 (Or.inl (List.mem_of_getElem? (i := 0) rfl))
  refine own_aloadN (pc' := 21) X6 hx (hb hby d1_20) rfl rfl rfl ?_
  refine own_ldc2Long (pc' := 24) X6 hx hZ hown (own_w hw 10 rfl) (hb hby d1_21) rfl ?_
  refine own_lloadN (pc' := 25) X6 hx (hb hby d1_24) rfl rfl ?_
  refine own_lloadN (pc' := 26) X6 hx (hb hby d1_25) rfl rfl ?_
  refine own_lrem (pc' := 27) X6 hx (hb hby d1_26) hm rfl ?_
  refine own_lmul (pc' := 28) X6 hx (hb hby d1_27) rfl ?_
  have f8 := ((F_stepRest.other W2 (Or.inr (slot_ne (Or.inr (own_w hw 16 rfl)) (Or.inr (own_w hw 12 rfl)) (by decide) (t := .long) (t' := .long) (by decide +kernel) (by decide +kernel)))).other W6 (Or.inr (slot_ne (Or.inr (own_w hw 16 rfl)) (Or.inr (own_w hw 14 rfl)) (by decide) (t := .long) (t' := .long) (by decide +kernel) (by decide +kernel))))
  have f9 := (f5.wr W6)
  obtain ⟨v11, hv11⟩ : ∃ z : Int64, z = ((2 : Int64) * (w1 % w2)) := ⟨_, rfl⟩
  rw [← hv11]
  refine own_putF (pc' := 31) X6 hx hZ hown (host := "") (Or.inl (own_w hw 15 rfl)) Via.refl e6 f8 f9 (Or.inr ⟨(own_w hw 16 rfl), rfl, hnm⟩) (own_w hw 2 rfl) (ty := .long) (by decide) rfl rfl (hb hby d1_28) rfl ?_
  intro T10 h10 X10 e10 W10
  have z10 : n0 ≤ h10.size := Nat.le_trans z6 (Keep.of_wr W10).1
  have F10 := f8.same W10
  have N10 := Fr.snoc X10 N6 g_a1
  have K10 : Keep h0 h10 [a1] := K6.wr W10 (Or.inl (List.mem_of_getElem? (i := 0) rfl))
  refine own_aloadN (pc' := 32) X10 hx (hb hby d1_31) rfl rfl rfl ?_
  refine own_lloadN (pc' := 33) X10 hx (hb hby d1_32) rfl rfl ?_
  refine own_aloadN (pc' := 34) X10 hx (hb hby d1_33) rfl rfl rfl ?_
  have f12 := ((F2.other W6 (Or.inr (slot_ne (Or.inr (own_w hw 12 rfl)) (Or.inr (own_w hw 14 rfl)) (by decide) (t := .long) (t' := .long) (by decide +kernel) (by decide +kernel)))).other W10 (Or.inr (slot_ne (Or.inr (own_w hw 12 rfl)) (Or.inr (own_w hw 16 rfl)) (by decide) (t := .long) (t' := .long) (by decide +kernel) (by decide +kernel))))
  refine own_getF (pc' := 37) X10 hx hZ hown (host := "") (Or.inl (own_w hw 11 rfl)) Via.refl e10 f12 (hb hby d1_34) rfl ?_
  intro T13 X13 e13
  refine own_ldiv (pc' := 38) X13 hx (hb hby d1_37) (by rw [hv3]; exact hm2) rfl ?_
  have f14 := (((F_whole.other W2 (Or.inr (slot_ne (Or.inl (own_w hw 18 rfl)) (Or.inr (own_w hw 12 rfl)) (by decide) (t := .long) (t' := .long) (by decide +kernel) (by decide +kernel)))).other W6 (Or.inr (slot_ne (Or.inl (own_w hw 18 rfl)) (Or.inr (own_w hw 14 rfl)) (by decide) (t := .long) (t' := .long) (by decide +kernel) (by decide +kernel)))).other W10 (Or.inr (slot_ne (Or.inl (own_w hw 18 rfl)) (Or.inr (own_w hw 16 rfl)) (by decide) (t := .long) (t' := .long) (by decide +kernel) (by decide +kernel))))
  have f15 := (f9.wr W10)
  obtain ⟨v17, hv17⟩ : ∃ z : Int64, z = (w1 / v3) := ⟨_, rfl⟩
  rw [← hv17]
  refine own_putF (pc' := 41) X13 hx hZ hown (host := "") (Or.inl (own_w hw 17 rfl)) Via.refl e13 f14 f15 (Or.inl (own_w hw 18 rfl)) (own_w hw 2 rfl) (ty := .long) (by decide) rfl rfl (hb hby d1_38) rfl ?_
  intro T16 h16 X16 e16 W16
  have z16 : n0 ≤ h16.size := Nat.le_trans z10 (Keep.of_wr W16).1
  have F16 := f14.same W16
  have N16 := Fr.snoc X16 N10 g_a1
  have K16 : Keep h0 h16 [a1] := K10.wr W16 (Or.inl (List.mem_of_getElem? (i := 0) rfl))
  refine own_aloadN (pc' := 42) X16 hx (hb hby d1_41) rfl rfl rfl ?_
  refine own_lloadN (pc' := 43) X16 hx (hb hby d1_42) rfl rfl ?_
  refine own_aloadN (pc' := 44) X16 hx (hb hby d1_43) rfl rfl rfl ?_
  have f18 := (f12.other W16 (Or.inr (slot_ne (Or.inr (own_w hw 12 rfl)) (Or.inl (own_w hw 18 rfl)) (by decide) (t := .long) (t' := .long) (by decide +kernel) (by decide +kernel))))
  refine own_getF (pc' := 47) X16 hx hZ hown (host := "") (Or.inl (own_w hw 11 rfl)) Via.refl e16 f18 (hb hby d1_44) rfl ?_
  intro T19 X19 e19
  refine own_lrem (pc' := 48) X19 hx (hb hby d1_47) (by rw [hv3]; exact hm2) rfl ?_
  have f20 := ((((F_rest.other W2 (Or.inr (slot_ne (Or.inl (own_w hw 20 rfl)) (Or.inr (own_w hw 12 rfl)) (by decide) (t := .long) (t' := .long) (by decide +kernel) (by decide +kernel)))).other W6 (Or.inr (slot_ne (Or.inl (own_w hw 20 rfl)) (Or.inr (own_w hw 14 rfl)) (by decide) (t := .long) (t' := .long) (by decide +kernel) (by decide +kernel)))).other W10 (Or.inr (slot_ne (Or.inl (own_w hw 20 rfl)) (Or.inr (own_w hw 16 rfl)) (by decide) (t := .long) (t' := .long) (by decide +kernel) (by decide +kernel)))).other W16 (Or.inr (slot_ne (Or.inl (own_w hw 20 rfl)) (Or.inl (own_w hw 18 rfl)) (by decide) (t := .long) (t' := .long) (by decide +kernel) (by decide +kernel))))
  have f21 := (f15.wr W16)
  obtain ⟨v23, hv23⟩ : ∃ z : Int64, z = (w1 % v3) := ⟨_, rfl⟩
  rw [← hv23]
  refine own_putF (pc' := 51) X19 hx hZ hown (host := "") (Or.inl (own_w hw 19 rfl)) Via.refl e19 f20 f21 (Or.inl (own_w hw 20 rfl)) (own_w hw 2 rfl) (ty := .long) (by decide) rfl rfl (hb hby d1_48) rfl ?_
  intro T22 h22 X22 e22 W22
  have z22 : n0 ≤ h22.size := Nat.le_trans z16 (Keep.of_wr W22).1
  have F22 := f20.same W22
  have N22 := Fr.snoc X22 N16 g_a1
  have K22 : Keep h0 h22 [a1] := K16.wr W22 (Or.inl (List.mem_of_getElem? (i := 0) rfl))
  have f24 := (f21.wr W22)
  have f25 := (f18.other W22 (Or.inr (slot_ne (Or.inr (own_w hw 12 rfl)) (Or.inl (own_w hw 20 rfl)) (by decide) (t := .long) (t' := .long) (by decide +kernel) (by decide +kernel))))
  have f26 := (((F6.other W10 (Or.inr (slot_ne (Or.inr (own_w hw 14 rfl)) (Or.inr (own_w hw 16 rfl)) (by decide) (t := .long) (t' := .long) (by decide +kernel) (by decide +kernel)))).other W16 (Or.inr (slot_ne (Or.inr (own_w hw 14 rfl)) (Or.inl (own_w hw 18 rfl)) (by decide) (t := .long) (t' := .long) (by decide +kernel) (by decide +kernel)))).other W22 (Or.inr (slot_ne (Or.inr (own_w hw 14 rfl)) (Or.inl (own_w hw 20 rfl)) (by decide) (t := .long) (t' := .long) (by decide +kernel) (by decide +kernel))))
  have f27 := ((F10.other W16 (Or.inr (slot_ne (Or.inr (own_w hw 16 rfl)) (Or.inl (own_w hw 18 rfl)) (by decide) (t := .long) (t' := .long) (by decide +kernel) (by decide +kernel)))).other W22 (Or.inr (slot_ne (Or.inr (own_w hw 16 rfl)) (Or.inl (own_w hw 20 rfl)) (by decide) (t := .long) (t' := .long) (by decide +kernel) (by decide +kernel))))
  have f28 := (F16.other W22 (Or.inr (slot_ne (Or.inl (own_w hw 18 rfl)) (Or.inl (own_w hw 20 rfl)) (by decide) (t := .long) (t' := .long) (by decide +kernel) (by decide +kernel))))
  refine own_ret0 X22 hx hlk hret (hb hby d1_51) (by decide) (by decide) ?_
  rw [e22]
  subst_vars
  exact ⟨rfl, N22, K22, f24, f25, f26, f27, f28, F22⟩
theorem d3_0 : decode prog_96_method_2_code 0 = .ok (.aload_n 0, 1) := by decide +kernel
theorem d3_1 : decode prog_96_method_2_code 1 = .ok (.getfield 21, 3) := by decide +kernel
theorem d3_4 : decode prog_96_method_2_code 4 = .ok (.lreturn, 1) := by decide +kernel
theorem pn_3 : plainFor (⟨"com/example/violetear/violetear/replay/EvenFetches", "wholeSeconds", "()J"⟩ : MethodName) = true := plainFor_of_name (by first | (simp [plainName, overriddenIn]; done) | decide +kernel)
theorem ef_conW (m : MethodId) (a1 : Addr) : entryFrame m #[(.ref a1)] 1 = mkF m 0 #[.val (.ref a1)] [] := by first | (simp [entryFrame, mkF, argsToLocals, Value.category]; done) | rfl
set_option maxRecDepth 65536 in
set_option maxHeartbeats 4000000 in
theorem conW (l : Launch) (Z : State) (a0 : Array Value) (hw : ∀ d ∈ tables_1, d.before a0 Z = true) (a1 : Addr) (h0 : Heap) (wh : Int64) (F1 : Fld Z h0 a1 "com/example/violetear/violetear/replay/EvenFetches" "whole" "J" (.long wh)) :
    own_Con l Z (⟨"com/example/violetear/violetear/replay/EvenFetches", "wholeSeconds", "()J"⟩ : MethodName) prog_96_method_2_code 1 (some .long) ({ frames := 0, cells := 0, slots := 0, locals := 0 } : Room) #[(.ref a1)] h0 (fun v h L => ∃ z : Int64, v = some (.long z) ∧ z = wh ∧ L = [] ∧ h = h0) := by
  refine own_Con_of pn_3 ?_
  intro p e s m below meth c s₁ X0 hx hby hml hret hlk hnm hown hZ e0
  have hown : s.vm.findClass "com/example/violetear/violetear/replay/EvenFetches" = some m.cls := hown
  have hml : c.maxLocals = 1 := hml
  show own_WP _ _ _ _ _ _ _ (s₁.setTop (entryFrame m #[(.ref a1)] 1))
  rw [ef_conW m a1]
  refine own_aloadN (pc' := 1) X0 hx (hb hby d3_0) rfl rfl rfl ?_
  refine own_getF (pc' := 4) X0 hx hZ hown (host := "") (Or.inl (own_w hw 17 rfl)) Via.refl e0 F1 (hb hby d3_1) rfl ?_
  intro T1 X1 e1
  refine own_retJ X1 hx hlk hret (hb hby d3_4) (by decide) (by decide) ?_
  exact ⟨wh, rfl, rfl, rfl, e1⟩
theorem d4_0 : decode method_2_code 0 = .ok (.lload_n 0, 1) := by decide +kernel
theorem d4_1 : decode method_2_code 1 = .ok (.lload_n 2, 1) := by decide +kernel
theorem d4_2 : decode method_2_code 2 = .ok (.ldiv, 1) := by decide +kernel
theorem d4_3 : decode method_2_code 3 = .ok (.lstore 6, 2) := by decide +kernel
theorem d4_5 : decode method_2_code 5 = .ok (.lload_n 0, 1) := by decide +kernel
theorem d4_6 : decode method_2_code 6 = .ok (.lload_n 2, 1) := by decide +kernel
theorem d4_7 : decode method_2_code 7 = .ok (.lrem, 1) := by decide +kernel
theorem d4_8 : decode method_2_code 8 = .ok (.lstore 8, 2) := by decide +kernel
theorem d4_10 : decode method_2_code 10 = .ok (.lload 4, 2) := by decide +kernel
theorem d4_12 : decode method_2_code 12 = .ok (.lload 6, 2) := by decide +kernel
theorem d4_14 : decode method_2_code 14 = .ok (.lmul, 1) := by decide +kernel
theorem d4_15 : decode method_2_code 15 = .ok (.lstore 10, 2) := by decide +kernel
theorem d4_17 : decode method_2_code 17 = .ok (.lload 10, 2) := by decide +kernel
theorem d4_19 : decode method_2_code 19 = .ok (.ldc2_w 7, 3) := by decide +kernel
theorem d4_22 : decode method_2_code 22 = .ok (.ldiv, 1) := by decide +kernel
theorem d4_23 : decode method_2_code 23 = .ok (.lstore 12, 2) := by decide +kernel
theorem d4_25 : decode method_2_code 25 = .ok (.lload 10, 2) := by decide +kernel
theorem d4_27 : decode method_2_code 27 = .ok (.ldc2_w 7, 3) := by decide +kernel
theorem d4_30 : decode method_2_code 30 = .ok (.lrem, 1) := by decide +kernel
theorem d4_31 : decode method_2_code 31 = .ok (.lstore 14, 2) := by decide +kernel
theorem d4_33 : decode method_2_code 33 = .ok (.lload 12, 2) := by decide +kernel
theorem d4_35 : decode method_2_code 35 = .ok (.lload 14, 2) := by decide +kernel
theorem d4_37 : decode method_2_code 37 = .ok (.lload_n 2, 1) := by decide +kernel
theorem d4_38 : decode method_2_code 38 = .ok (.lmul, 1) := by decide +kernel
theorem d4_39 : decode method_2_code 39 = .ok (.lload 4, 2) := by decide +kernel
theorem d4_41 : decode method_2_code 41 = .ok (.lload 8, 2) := by decide +kernel
theorem d4_43 : decode method_2_code 43 = .ok (.lmul, 1) := by decide +kernel
theorem d4_44 : decode method_2_code 44 = .ok (.ladd, 1) := by decide +kernel
theorem d4_45 : decode method_2_code 45 = .ok (.ldc2_w 7, 3) := by decide +kernel
theorem d4_48 : decode method_2_code 48 = .ok (.lload_n 2, 1) := by decide +kernel
theorem d4_49 : decode method_2_code 49 = .ok (.lmul, 1) := by decide +kernel
theorem d4_50 : decode method_2_code 50 = .ok (.ldiv, 1) := by decide +kernel
theorem d4_51 : decode method_2_code 51 = .ok (.ladd, 1) := by decide +kernel
theorem d4_52 : decode method_2_code 52 = .ok (.lreturn, 1) := by decide +kernel
theorem pn_4 : plainFor (⟨"com/example/violetear/violetear/replay/EvenFetchesAdvancePinLaw", "ref", "(JJJ)J"⟩ : MethodName) = true := plainFor_of_name (by first | (simp [plainName, overriddenIn]; done) | decide +kernel)
theorem ef_conR (m : MethodId) (c1 : Int64) (c2 : Int64) (c3 : Int64) : entryFrame m #[(.long c1), (.long c2), (.long c3)] 16 = mkF m 0 #[.val (.long c1), .second, .val (.long c2), .second, .val (.long c3), .second, .unset, .unset, .unset, .unset, .unset, .unset, .unset, .unset, .unset, .unset] [] := by first | (simp [entryFrame, mkF, argsToLocals, Value.category]; done) | rfl
set_option maxRecDepth 65536 in
set_option maxHeartbeats 4000000 in
theorem conR (l : Launch) (Z : State) (a0 : Array Value) (hw : ∀ d ∈ tables_1, d.before a0 Z = true) (c1 : Int64) (c2 : Int64) (c3 : Int64) (h0 : Heap) (hm : c2 ≠ 0) (hm2 : (2 : Int64) * c2 ≠ 0) :
    own_Con l Z (⟨"com/example/violetear/violetear/replay/EvenFetchesAdvancePinLaw", "ref", "(JJJ)J"⟩ : MethodName) method_2_code 16 (some .long) ({ frames := 0, cells := 0, slots := 0, locals := 0 } : Room) #[(.long c1), (.long c2), (.long c3)] h0 (fun v h L => ∃ z : Int64, v = some (.long z) ∧ z = own_ref c1 c2 c3 ∧ L = [] ∧ h = h0) := by
  refine own_Con_of pn_4 ?_
  intro p e s m below meth c s₁ X0 hx hby hml hret hlk hnm hown hZ e0
  have hown : s.vm.findClass "com/example/violetear/violetear/replay/EvenFetchesAdvancePinLaw" = some m.cls := hown
  have hml : c.maxLocals = 16 := hml
  show own_WP _ _ _ _ _ _ _ (s₁.setTop (entryFrame m #[(.long c1), (.long c2), (.long c3)] 16))
  rw [ef_conR m c1 c2 c3]
  refine own_lloadN (pc' := 1) X0 hx (hb hby d4_0) rfl rfl ?_
  refine own_lloadN (pc' := 2) X0 hx (hb hby d4_1) rfl rfl ?_
  refine own_ldiv (pc' := 3) X0 hx (hb hby d4_2) hm rfl ?_
  obtain ⟨v1, hv1⟩ : ∃ z : Int64, z = (c1 / c2) := ⟨_, rfl⟩
  refine own_lstore (pc' := 5) (l' := #[.val (.long c1), .second, .val (.long c2), .second, .val (.long c3), .second, .val (.long v1), .second, .unset, .unset, .unset, .unset, .unset, .unset, .unset, .unset]) X0 hx (hb hby d4_3) hv1 rfl rfl ?_
  refine own_lloadN (pc' := 6) X0 hx (hb hby d4_5) rfl rfl ?_
  refine own_lloadN (pc' := 7) X0 hx (hb hby d4_6) rfl rfl ?_
  refine own_lrem (pc' := 8) X0 hx (hb hby d4_7) hm rfl ?_
  obtain ⟨v2, hv2⟩ : ∃ z : Int64, z = (c1 % c2) := ⟨_, rfl⟩
  refine own_lstore (pc' := 10) (l' := #[.val (.long c1), .second, .val (.long c2), .second, .val (.long c3), .second, .val (.long v1), .second, .val (.long v2), .second, .unset, .unset, .unset, .unset, .unset, .unset]) X0 hx (hb hby d4_8) hv2 rfl rfl ?_
  refine own_lload (pc' := 12) X0 hx (hb hby d4_10) rfl rfl ?_
  refine own_lload (pc' := 14) X0 hx (hb hby d4_12) rfl rfl ?_
  refine own_lmul (pc' := 15) X0 hx (hb hby d4_14) rfl ?_
  obtain ⟨v3, hv3⟩ : ∃ z : Int64, z = (c3 * v1) := ⟨_, rfl⟩
  refine own_lstore (pc' := 17) (l' := #[.val (.long c1), .second, .val (.long c2), .second, .val (.long c3), .second, .val (.long v1), .second, .val (.long v2), .second, .val (.long v3), .second, .unset, .unset, .unset, .unset]) X0 hx (hb hby d4_15) hv3 rfl rfl ?_
  refine own_lload (pc' := 19) X0 hx (hb hby d4_17) rfl rfl ?_
  refine own_ldc2Long (pc' := 22) X0 hx hZ hown (own_w hw 30 rfl) (hb hby d4_19) rfl ?_
  refine own_ldiv (pc' := 23) X0 hx (hb hby d4_22) (by decide) rfl ?_
  obtain ⟨v4, hv4⟩ : ∃ z : Int64, z = (v3 / (2 : Int64)) := ⟨_, rfl⟩
  refine own_lstore (pc' := 25) (l' := #[.val (.long c1), .second, .val (.long c2), .second, .val (.long c3), .second, .val (.long v1), .second, .val (.long v2), .second, .val (.long v3), .second, .val (.long v4), .second, .unset, .unset]) X0 hx (hb hby d4_23) hv4 rfl rfl ?_
  refine own_lload (pc' := 27) X0 hx (hb hby d4_25) rfl rfl ?_
  refine own_ldc2Long (pc' := 30) X0 hx hZ hown (own_w hw 30 rfl) (hb hby d4_27) rfl ?_
  refine own_lrem (pc' := 31) X0 hx (hb hby d4_30) (by decide) rfl ?_
  obtain ⟨v5, hv5⟩ : ∃ z : Int64, z = (v3 % (2 : Int64)) := ⟨_, rfl⟩
  refine own_lstore (pc' := 33) (l' := #[.val (.long c1), .second, .val (.long c2), .second, .val (.long c3), .second, .val (.long v1), .second, .val (.long v2), .second, .val (.long v3), .second, .val (.long v4), .second, .val (.long v5), .second]) X0 hx (hb hby d4_31) hv5 rfl rfl ?_
  refine own_lload (pc' := 35) X0 hx (hb hby d4_33) rfl rfl ?_
  refine own_lload (pc' := 37) X0 hx (hb hby d4_35) rfl rfl ?_
  refine own_lloadN (pc' := 38) X0 hx (hb hby d4_37) rfl rfl ?_
  refine own_lmul (pc' := 39) X0 hx (hb hby d4_38) rfl ?_
  refine own_lload (pc' := 41) X0 hx (hb hby d4_39) rfl rfl ?_
  refine own_lload (pc' := 43) X0 hx (hb hby d4_41) rfl rfl ?_
  refine own_lmul (pc' := 44) X0 hx (hb hby d4_43) rfl ?_
  refine own_ladd (pc' := 45) X0 hx (hb hby d4_44) rfl ?_
  refine own_ldc2Long (pc' := 48) X0 hx hZ hown (own_w hw 30 rfl) (hb hby d4_45) rfl ?_
  refine own_lloadN (pc' := 49) X0 hx (hb hby d4_48) rfl rfl ?_
  refine own_lmul (pc' := 50) X0 hx (hb hby d4_49) rfl ?_
  refine own_ldiv (pc' := 51) X0 hx (hb hby d4_50) hm2 rfl ?_
  refine own_ladd (pc' := 52) X0 hx (hb hby d4_51) rfl ?_
  refine own_retJ X0 hx hlk hret (hb hby d4_52) (by decide) (by decide) ?_
  exact ⟨(v4 + (((v5 * c2) + (c3 * v2)) / ((2 : Int64) * c2))), rfl, by subst_vars; rfl, rfl, e0⟩
theorem d5_0 : decode prog_96_method_4_code 0 = .ok (.aload_n 0, 1) := by decide +kernel
theorem d5_1 : decode prog_96_method_4_code 1 = .ok (.dup, 1) := by decide +kernel
theorem d5_2 : decode prog_96_method_4_code 2 = .ok (.getfield 21, 3) := by decide +kernel
theorem d5_5 : decode prog_96_method_4_code 5 = .ok (.aload_n 0, 1) := by decide +kernel
theorem d5_6 : decode prog_96_method_4_code 6 = .ok (.getfield 15, 3) := by decide +kernel
theorem d5_9 : decode prog_96_method_4_code 9 = .ok (.ladd, 1) := by decide +kernel
theorem d5_10 : decode prog_96_method_4_code 10 = .ok (.putfield 21, 3) := by decide +kernel
theorem d5_13 : decode prog_96_method_4_code 13 = .ok (.aload_n 0, 1) := by decide +kernel
theorem d5_14 : decode prog_96_method_4_code 14 = .ok (.dup, 1) := by decide +kernel
theorem d5_15 : decode prog_96_method_4_code 15 = .ok (.getfield 24, 3) := by decide +kernel
theorem d5_18 : decode prog_96_method_4_code 18 = .ok (.aload_n 0, 1) := by decide +kernel
theorem d5_19 : decode prog_96_method_4_code 19 = .ok (.getfield 18, 3) := by decide +kernel
theorem d5_22 : decode prog_96_method_4_code 22 = .ok (.ladd, 1) := by decide +kernel
theorem d5_23 : decode prog_96_method_4_code 23 = .ok (.putfield 24, 3) := by decide +kernel
theorem d5_26 : decode prog_96_method_4_code 26 = .ok (.aload_n 0, 1) := by decide +kernel
theorem d5_27 : decode prog_96_method_4_code 27 = .ok (.getfield 24, 3) := by decide +kernel
theorem d5_30 : decode prog_96_method_4_code 30 = .ok (.aload_n 0, 1) := by decide +kernel
theorem d5_31 : decode prog_96_method_4_code 31 = .ok (.getfield 9, 3) := by decide +kernel
theorem d5_34 : decode prog_96_method_4_code 34 = .ok (.lcmp, 1) := by decide +kernel
theorem d5_35 : decode prog_96_method_4_code 35 = .ok (.ifCond .lt 26, 3) := by decide +kernel
theorem d5_38 : decode prog_96_method_4_code 38 = .ok (.aload_n 0, 1) := by decide +kernel
theorem d5_39 : decode prog_96_method_4_code 39 = .ok (.dup, 1) := by decide +kernel
theorem d5_40 : decode prog_96_method_4_code 40 = .ok (.getfield 21, 3) := by decide +kernel
theorem d5_43 : decode prog_96_method_4_code 43 = .ok (.lconst 1, 1) := by decide +kernel
theorem d5_44 : decode prog_96_method_4_code 44 = .ok (.ladd, 1) := by decide +kernel
theorem d5_45 : decode prog_96_method_4_code 45 = .ok (.putfield 21, 3) := by decide +kernel
theorem d5_48 : decode prog_96_method_4_code 48 = .ok (.aload_n 0, 1) := by decide +kernel
theorem d5_49 : decode prog_96_method_4_code 49 = .ok (.dup, 1) := by decide +kernel
theorem d5_50 : decode prog_96_method_4_code 50 = .ok (.getfield 24, 3) := by decide +kernel
theorem d5_53 : decode prog_96_method_4_code 53 = .ok (.aload_n 0, 1) := by decide +kernel
theorem d5_54 : decode prog_96_method_4_code 54 = .ok (.getfield 9, 3) := by decide +kernel
theorem d5_57 : decode prog_96_method_4_code 57 = .ok (.lsub, 1) := by decide +kernel
theorem d5_58 : decode prog_96_method_4_code 58 = .ok (.putfield 24, 3) := by decide +kernel
theorem d5_61 : decode prog_96_method_4_code 61 = .ok (.return_, 1) := by decide +kernel
theorem pn_5 : plainFor (⟨"com/example/violetear/violetear/replay/EvenFetches", "advance", "()V"⟩ : MethodName) = true := plainFor_of_name (by first | (simp [plainName, overriddenIn]; done) | decide +kernel)
theorem ef_conA (m : MethodId) (a1 : Addr) : entryFrame m #[(.ref a1)] 1 = mkF m 0 #[.val (.ref a1)] [] := by first | (simp [entryFrame, mkF, argsToLocals, Value.category]; done) | rfl
set_option maxRecDepth 65536 in
set_option maxHeartbeats 4000000 in
theorem conA (l : Launch) (Z : State) (a0 : Array Value) (hw : ∀ d ∈ tables_1, d.before a0 Z = true) (a1 : Addr) (h0 : Heap) (n0 : Nat) (Z0 : n0 ≤ h0.size) (den sw sr wh re : Int64) (E1 : Exa Z h0 a1 "com/example/violetear/violetear/replay/EvenFetches") (F_denominator : Fld Z h0 a1 "com/example/violetear/violetear/replay/EvenFetches" "denominator" "J" (.long den)) (F_stepWhole : Fld Z h0 a1 "com/example/violetear/violetear/replay/EvenFetches" "stepWhole" "J" (.long sw)) (F_stepRest : Fld Z h0 a1 "com/example/violetear/violetear/replay/EvenFetches" "stepRest" "J" (.long sr)) (F_whole : Fld Z h0 a1 "com/example/violetear/violetear/replay/EvenFetches" "whole" "J" (.long wh)) (F_rest : Fld Z h0 a1 "com/example/violetear/violetear/replay/EvenFetches" "rest" "J" (.long re)) (g_a1 : n0 ≤ a1) :
    own_Con l Z (⟨"com/example/violetear/violetear/replay/EvenFetches", "advance", "()V"⟩ : MethodName) prog_96_method_4_code 1 none ({ frames := 0, cells := 0, slots := 0, locals := 0 } : Room) #[(.ref a1)] h0 (fun v h L => ∃ wh' re', own_adv den sw sr wh re wh' re' ∧ v = none ∧ Fr n0 L ∧ Keep h0 h [a1] ∧ Exa Z h a1 "com/example/violetear/violetear/replay/EvenFetches" ∧ Fld Z h a1 "com/example/violetear/violetear/replay/EvenFetches" "denominator" "J" (.long den) ∧ Fld Z h a1 "com/example/violetear/violetear/replay/EvenFetches" "stepWhole" "J" (.long sw) ∧ Fld Z h a1 "com/example/violetear/violetear/replay/EvenFetches" "stepRest" "J" (.long sr) ∧ Fld Z h a1 "com/example/violetear/violetear/replay/EvenFetches" "whole" "J" (.long wh') ∧ Fld Z h a1 "com/example/violetear/violetear/replay/EvenFetches" "rest" "J" (.long re')) := by
  refine own_Con_of pn_5 ?_
  intro p e s m below meth c s₁ X0 hx hby hml hret hlk hnm hown hZ e0
  have hown : s.vm.findClass "com/example/violetear/violetear/replay/EvenFetches" = some m.cls := hown
  have hml : c.maxLocals = 1 := hml
  have N0 := Fr.nil n0
  show own_WP _ _ _ _ _ _ _ (s₁.setTop (entryFrame m #[(.ref a1)] 1))
  rw [ef_conA m a1]
  refine own_aloadN (pc' := 1) X0 hx (hb hby d5_0) rfl rfl rfl ?_
  refine own_dup (pc' := 2) X0 hx (hb hby d5_1) rfl rfl ?_
  refine own_getF (pc' := 5) X0 hx hZ hown (host := "") (Or.inl (own_w hw 17 rfl)) Via.refl e0 F_whole (hb hby d5_2) rfl ?_
  intro T1 X1 e1
  refine own_aloadN (pc' := 6) X1 hx (hb hby d5_5) rfl rfl rfl ?_
  refine own_getF (pc' := 9) X1 hx hZ hown (host := "") (Or.inl (own_w hw 13 rfl)) Via.refl e1 F_stepWhole (hb hby d5_6) rfl ?_
  intro T2 X2 e2
  refine own_ladd (pc' := 10) X2 hx (hb hby d5_9) rfl ?_
  obtain ⟨v4, hv4⟩ : ∃ z : Int64, z = (wh + sw) := ⟨_, rfl⟩
  rw [← hv4]
  refine own_putF (pc' := 13) X2 hx hZ hown (host := "") (Or.inl (own_w hw 17 rfl)) Via.refl e2 F_whole E1 (Or.inl (own_w hw 18 rfl)) (own_w hw 2 rfl) (ty := .long) (by decide) rfl rfl (hb hby d5_10) rfl ?_
  intro T3 h3 X3 e3 W3
  have z3 : n0 ≤ h3.size := Nat.le_trans Z0 (Keep.of_wr W3).1
  have F3 := F_whole.same W3
  have N3 := Fr.snoc X3 N0 g_a1
  have K3 : Keep h0 h3 [a1] := (Keep.refl h0 [a1]).wr W3 (Or.inl (List.mem_of_getElem? (i := 0) rfl))
  refine own_aloadN (pc' := 14) X3 hx (hb hby d5_13) rfl rfl rfl ?_
  refine own_dup (pc' := 15) X3 hx (hb hby d5_14) rfl rfl ?_
  have f5 := (F_rest.other W3 (Or.inr (slot_ne (Or.inl (own_w hw 20 rfl)) (Or.inl (own_w hw 18 rfl)) (by decide) (t := .long) (t' := .long) (by decide +kernel) (by decide +kernel))))
  refine own_getF (pc' := 18) X3 hx hZ hown (host := "") (Or.inl (own_w hw 19 rfl)) Via.refl e3 f5 (hb hby d5_15) rfl ?_
  intro T6 X6 e6
  refine own_aloadN (pc' := 19) X6 hx (hb hby d5_18) rfl rfl rfl ?_
  have f7 := (F_stepRest.other W3 (Or.inr (slot_ne (Or.inr (own_w hw 16 rfl)) (Or.inl (own_w hw 18 rfl)) (by decide) (t := .long) (t' := .long) (by decide +kernel) (by decide +kernel))))
  refine own_getF (pc' := 22) X6 hx hZ hown (host := "") (Or.inl (own_w hw 15 rfl)) Via.refl e6 f7 (hb hby d5_19) rfl ?_
  intro T8 X8 e8
  refine own_ladd (pc' := 23) X8 hx (hb hby d5_22) rfl ?_
  have f9 := (E1.wr W3)
  obtain ⟨v11, hv11⟩ : ∃ z : Int64, z = (re + sr) := ⟨_, rfl⟩
  rw [← hv11]
  refine own_putF (pc' := 26) X8 hx hZ hown (host := "") (Or.inl (own_w hw 19 rfl)) Via.refl e8 f5 f9 (Or.inl (own_w hw 20 rfl)) (own_w hw 2 rfl) (ty := .long) (by decide) rfl rfl (hb hby d5_23) rfl ?_
  intro T10 h10 X10 e10 W10
  have z10 : n0 ≤ h10.size := Nat.le_trans z3 (Keep.of_wr W10).1
  have F10 := f5.same W10
  have N10 := Fr.snoc X10 N3 g_a1
  have K10 : Keep h0 h10 [a1] := K3.wr W10 (Or.inl (List.mem_of_getElem? (i := 0) rfl))
  refine own_aloadN (pc' := 27) X10 hx (hb hby d5_26) rfl rfl rfl ?_
  refine own_getF (pc' := 30) X10 hx hZ hown (host := "") (Or.inl (own_w hw 19 rfl)) Via.refl e10 F10 (hb hby d5_27) rfl ?_
  intro T12 X12 e12
  refine own_aloadN (pc' := 31) X12 hx (hb hby d5_30) rfl rfl rfl ?_
  have f13 := ((F_denominator.other W3 (Or.inr (slot_ne (Or.inr (own_w hw 12 rfl)) (Or.inl (own_w hw 18 rfl)) (by decide) (t := .long) (t' := .long) (by decide +kernel) (by decide +kernel)))).other W10 (Or.inr (slot_ne (Or.inr (own_w hw 12 rfl)) (Or.inl (own_w hw 20 rfl)) (by decide) (t := .long) (t' := .long) (by decide +kernel) (by decide +kernel))))
  refine own_getF (pc' := 34) X12 hx hZ hown (host := "") (Or.inl (own_w hw 11 rfl)) Via.refl e12 f13 (hb hby d5_31) rfl ?_
  intro T14 X14 e14
  refine own_lcmp (pc' := 35) X14 hx (hb hby d5_34) rfl ?_
  refine own_ifl_lt (pt := 61) (pf := 38) X14 hx (hb hby d5_35) rfl (by decide) rfl (fun hc35 => ?_) (fun hc35 => ?_)
  · skip
    have f15 := (f9.wr W10)
    have f16 := ((F_stepWhole.other W3 (Or.inr (slot_ne (Or.inr (own_w hw 14 rfl)) (Or.inl (own_w hw 18 rfl)) (by decide) (t := .long) (t' := .long) (by decide +kernel) (by decide +kernel)))).other W10 (Or.inr (slot_ne (Or.inr (own_w hw 14 rfl)) (Or.inl (own_w hw 20 rfl)) (by decide) (t := .long) (t' := .long) (by decide +kernel) (by decide +kernel))))
    have f17 := (f7.other W10 (Or.inr (slot_ne (Or.inr (own_w hw 16 rfl)) (Or.inl (own_w hw 20 rfl)) (by decide) (t := .long) (t' := .long) (by decide +kernel) (by decide +kernel))))
    have f18 := (F3.other W10 (Or.inr (slot_ne (Or.inl (own_w hw 18 rfl)) (Or.inl (own_w hw 20 rfl)) (by decide) (t := .long) (t' := .long) (by decide +kernel) (by decide +kernel))))
    refine own_ret0 X14 hx hlk hret (hb hby d5_61) (by decide) (by decide) ?_
    rw [e14]
    exact ⟨v4, v11, ⟨fun _ => ⟨by subst_vars; rfl, by subst_vars; rfl⟩, fun q => absurd (by subst_vars; exact hc35) q⟩, rfl, N10, K10, f15, f13, f16, f17, f18, F10⟩
  · skip
    refine own_aloadN (pc' := 39) X14 hx (hb hby d5_38) rfl rfl rfl ?_
    refine own_dup (pc' := 40) X14 hx (hb hby d5_39) rfl rfl ?_
    have f19 := (F3.other W10 (Or.inr (slot_ne (Or.inl (own_w hw 18 rfl)) (Or.inl (own_w hw 20 rfl)) (by decide) (t := .long) (t' := .long) (by decide +kernel) (by decide +kernel))))
    refine own_getF (pc' := 43) X14 hx hZ hown (host := "") (Or.inl (own_w hw 17 rfl)) Via.refl e14 f19 (hb hby d5_40) rfl ?_
    intro T20 X20 e20
    refine own_lconst1 (pc' := 44) X20 hx (hb hby d5_43) rfl ?_
    refine own_ladd (pc' := 45) X20 hx (hb hby d5_44) rfl ?_
    have f21 := (f9.wr W10)
    obtain ⟨v23, hv23⟩ : ∃ z : Int64, z = (v4 + (1 : Int64)) := ⟨_, rfl⟩
    rw [← hv23]
    refine own_putF (pc' := 48) X20 hx hZ hown (host := "") (Or.inl (own_w hw 17 rfl)) Via.refl e20 f19 f21 (Or.inl (own_w hw 18 rfl)) (own_w hw 2 rfl) (ty := .long) (by decide) rfl rfl (hb hby d5_45) rfl ?_
    intro T22 h22 X22 e22 W22
    have z22 : n0 ≤ h22.size := Nat.le_trans z10 (Keep.of_wr W22).1
    have F22 := f19.same W22
    have N22 := Fr.snoc X22 N10 g_a1
    have K22 : Keep h0 h22 [a1] := K10.wr W22 (Or.inl (List.mem_of_getElem? (i := 0) rfl))
    refine own_aloadN (pc' := 49) X22 hx (hb hby d5_48) rfl rfl rfl ?_
    refine own_dup (pc' := 50) X22 hx (hb hby d5_49) rfl rfl ?_
    have f24 := (F10.other W22 (Or.inr (slot_ne (Or.inl (own_w hw 20 rfl)) (Or.inl (own_w hw 18 rfl)) (by decide) (t := .long) (t' := .long) (by decide +kernel) (by decide +kernel))))
    refine own_getF (pc' := 53) X22 hx hZ hown (host := "") (Or.inl (own_w hw 19 rfl)) Via.refl e22 f24 (hb hby d5_50) rfl ?_
    intro T25 X25 e25
    refine own_aloadN (pc' := 54) X25 hx (hb hby d5_53) rfl rfl rfl ?_
    have f26 := (f13.other W22 (Or.inr (slot_ne (Or.inr (own_w hw 12 rfl)) (Or.inl (own_w hw 18 rfl)) (by decide) (t := .long) (t' := .long) (by decide +kernel) (by decide +kernel))))
    refine own_getF (pc' := 57) X25 hx hZ hown (host := "") (Or.inl (own_w hw 11 rfl)) Via.refl e25 f26 (hb hby d5_54) rfl ?_
    intro T27 X27 e27
    refine own_lsub (pc' := 58) X27 hx (hb hby d5_57) rfl ?_
    have f28 := (f21.wr W22)
    obtain ⟨v30, hv30⟩ : ∃ z : Int64, z = (v11 - den) := ⟨_, rfl⟩
    rw [← hv30]
    refine own_putF (pc' := 61) X27 hx hZ hown (host := "") (Or.inl (own_w hw 19 rfl)) Via.refl e27 f24 f28 (Or.inl (own_w hw 20 rfl)) (own_w hw 2 rfl) (ty := .long) (by decide) rfl rfl (hb hby d5_58) rfl ?_
    intro T29 h29 X29 e29 W29
    have z29 : n0 ≤ h29.size := Nat.le_trans z22 (Keep.of_wr W29).1
    have F29 := f24.same W29
    have N29 := Fr.snoc X29 N22 g_a1
    have K29 : Keep h0 h29 [a1] := K22.wr W29 (Or.inl (List.mem_of_getElem? (i := 0) rfl))
    have f31 := (f28.wr W29)
    have f32 := (f26.other W29 (Or.inr (slot_ne (Or.inr (own_w hw 12 rfl)) (Or.inl (own_w hw 20 rfl)) (by decide) (t := .long) (t' := .long) (by decide +kernel) (by decide +kernel))))
    have f33 := ((((F_stepWhole.other W3 (Or.inr (slot_ne (Or.inr (own_w hw 14 rfl)) (Or.inl (own_w hw 18 rfl)) (by decide) (t := .long) (t' := .long) (by decide +kernel) (by decide +kernel)))).other W10 (Or.inr (slot_ne (Or.inr (own_w hw 14 rfl)) (Or.inl (own_w hw 20 rfl)) (by decide) (t := .long) (t' := .long) (by decide +kernel) (by decide +kernel)))).other W22 (Or.inr (slot_ne (Or.inr (own_w hw 14 rfl)) (Or.inl (own_w hw 18 rfl)) (by decide) (t := .long) (t' := .long) (by decide +kernel) (by decide +kernel)))).other W29 (Or.inr (slot_ne (Or.inr (own_w hw 14 rfl)) (Or.inl (own_w hw 20 rfl)) (by decide) (t := .long) (t' := .long) (by decide +kernel) (by decide +kernel))))
    have f34 := (((f7.other W10 (Or.inr (slot_ne (Or.inr (own_w hw 16 rfl)) (Or.inl (own_w hw 20 rfl)) (by decide) (t := .long) (t' := .long) (by decide +kernel) (by decide +kernel)))).other W22 (Or.inr (slot_ne (Or.inr (own_w hw 16 rfl)) (Or.inl (own_w hw 18 rfl)) (by decide) (t := .long) (t' := .long) (by decide +kernel) (by decide +kernel)))).other W29 (Or.inr (slot_ne (Or.inr (own_w hw 16 rfl)) (Or.inl (own_w hw 20 rfl)) (by decide) (t := .long) (t' := .long) (by decide +kernel) (by decide +kernel))))
    have f35 := (F22.other W29 (Or.inr (slot_ne (Or.inl (own_w hw 18 rfl)) (Or.inl (own_w hw 20 rfl)) (by decide) (t := .long) (t' := .long) (by decide +kernel) (by decide +kernel))))
    refine own_ret0 X29 hx hlk hret (hb hby d5_61) (by decide) (by decide) ?_
    rw [e29]
    exact ⟨v23, v30, ⟨fun q => absurd q (by subst_vars; exact hc35), fun _ => ⟨by subst_vars; rfl, by subst_vars; rfl⟩⟩, rfl, N29, K29, f31, f32, f33, f34, f35, F29⟩
theorem pn_0 : plainFor x = true := plainFor_of_name (by first | (simp [plainName, overriddenIn]; done) | decide +kernel)
theorem ef_con0 (m : MethodId) (p0 : Int64) (p1 : Int64) (p2 : Int32) : entryFrame m #[(.long p0), (.long p1), (.int p2)] 11 = mkF m 0 #[.val (.long p0), .second, .val (.long p1), .second, .val (.int p2), .unset, .unset, .unset, .unset, .unset, .unset] [] := by first | (simp [entryFrame, mkF, argsToLocals, Value.category]; done) | rfl
theorem pd0 : parseMethodDescriptor "(JJ)V" = some ⟨[.long, .long], none⟩ := by decide +kernel
theorem pd1 : parseMethodDescriptor "()J" = some ⟨[], some .long⟩ := by decide +kernel
theorem pd2 : parseMethodDescriptor "(JJJ)J" = some ⟨[.long, .long, .long], some .long⟩ := by decide +kernel
theorem pd3 : parseMethodDescriptor "()V" = some ⟨[], none⟩ := by decide +kernel
set_option maxRecDepth 65536 in
set_option maxHeartbeats 4000000 in
theorem con0 (l : Launch) (Z : State) (a0 : Array Value) (hw : ∀ d ∈ tables_1, d.before a0 Z = true) (p0 : Int64) (p1 : Int64) (p2 : Int32) (h0 : Heap) (n0 : Nat) (Z0 : n0 ≤ h0.size) :
    own_Con l Z x code maxLocals ret room_1 #[(.long p0), (.long p1), (.int p2)] h0 (fun v h L => v = some (.int 1) ∧ Fr n0 L) := by
  refine own_Con_of pn_0 ?_
  intro p e s m below meth c s₁ X0 hx hby hml hret hlk hnm hown hZ e0
  have hown : s.vm.findClass "com/example/violetear/violetear/replay/EvenFetchesAdvancePinLaw" = some m.cls := hown
  have hml : c.maxLocals = 11 := hml
  have hret : meth.sig.returnType = (some .boolean) := hret
  have N0 := Fr.nil n0
  show own_WP _ _ _ _ _ _ _ (s₁.setTop (entryFrame m #[(.long p0), (.long p1), (.int p2)] 11))
  rw [ef_con0 m p0 p1 p2]
  refine own_lloadN (pc' := 1) X0 hx (hb hby at_0) rfl rfl ?_
  refine own_ldc2Long (pc' := 4) X0 hx hZ hown (own_w hw 0 rfl) (hb hby at_1) rfl ?_
  refine own_land (pc' := 5) X0 hx (hb hby at_4) rfl ?_
  refine own_iload (pc' := 7) X0 hx (hb hby at_5) rfl rfl ?_
  refine own_bipush (pc' := 9) X0 hx (63 : Int32) (hb hby at_7) rfl rfl ?_
  refine own_iand (pc' := 10) X0 hx (hb hby at_9) rfl ?_
  refine own_lushr (pc' := 11) X0 hx (hb hby at_10) rfl ?_
  refine own_lconst1 (pc' := 12) X0 hx (hb hby at_11) rfl ?_
  refine own_ladd (pc' := 13) X0 hx (hb hby at_12) rfl ?_
  obtain ⟨v1, hv1⟩ : ∃ z : Int64, z = ((((p1 &&& (1152921504606846975 : Int64)).toUInt64 >>> ((p2 &&& (63 : Int32)) &&& 0x3f).toInt64.toUInt64).toInt64) + (1 : Int64)) := ⟨_, rfl⟩
  refine own_lstore (pc' := 15) (l' := #[.val (.long p0), .second, .val (.long p1), .second, .val (.int p2), .val (.long v1), .second, .unset, .unset, .unset, .unset]) X0 hx (hb hby at_13) hv1 rfl rfl ?_
  refine own_lloadN (pc' := 16) X0 hx (hb hby at_15) rfl rfl ?_
  refine own_ldc2Long (pc' := 19) X0 hx hZ hown (own_w hw 0 rfl) (hb hby at_16) rfl ?_
  refine own_land (pc' := 20) X0 hx (hb hby at_19) rfl ?_
  refine own_iload (pc' := 22) X0 hx (hb hby at_20) rfl rfl ?_
  refine own_bipush (pc' := 24) X0 hx (6 : Int32) (hb hby at_22) rfl rfl ?_
  refine own_iushr (pc' := 25) X0 hx (hb hby at_24) rfl ?_
  refine own_bipush (pc' := 27) X0 hx (63 : Int32) (hb hby at_25) rfl rfl ?_
  refine own_iand (pc' := 28) X0 hx (hb hby at_27) rfl ?_
  refine own_lushr (pc' := 29) X0 hx (hb hby at_28) rfl ?_
  obtain ⟨v2, hv2⟩ : ∃ z : Int64, z = (((p0 &&& (1152921504606846975 : Int64)).toUInt64 >>> ((((p2.toUInt32 >>> ((6 : Int32) &&& 31).toUInt32).toInt32) &&& (63 : Int32)) &&& 0x3f).toInt64.toUInt64).toInt64) := ⟨_, rfl⟩
  refine own_lstore (pc' := 31) (l' := #[.val (.long p0), .second, .val (.long p1), .second, .val (.int p2), .val (.long v1), .second, .val (.long v2), .second, .unset, .unset]) X0 hx (hb hby at_29) hv2 rfl rfl ?_
  refine own_new (pc' := 34) X0 hx hZ hown (own_w hw 1 rfl) (own_w hw 2 rfl) (own_w hw 3 rfl) e0 (hb hby at_31) (by decide) (by decide) rfl ?_
  intro T3 h3 b3 g3 X3 e3 E3 A3 D3
  have g_b3 : n0 ≤ b3 := Nat.le_trans Z0 (Nat.le_of_eq g3.symm)
  have z3 : n0 ≤ h3.size := Nat.le_trans Z0 E3.1
  have F3_denominator : Fld Z h3 b3 "com/example/violetear/violetear/replay/EvenFetches" "denominator" "J" (.long (0 : Int64)) := D3 (Or.inr (own_w hw 12 rfl)) (ty := .long) (by decide)
  have F3_stepWhole : Fld Z h3 b3 "com/example/violetear/violetear/replay/EvenFetches" "stepWhole" "J" (.long (0 : Int64)) := D3 (Or.inr (own_w hw 14 rfl)) (ty := .long) (by decide)
  have F3_stepRest : Fld Z h3 b3 "com/example/violetear/violetear/replay/EvenFetches" "stepRest" "J" (.long (0 : Int64)) := D3 (Or.inr (own_w hw 16 rfl)) (ty := .long) (by decide)
  have F3_whole : Fld Z h3 b3 "com/example/violetear/violetear/replay/EvenFetches" "whole" "J" (.long (0 : Int64)) := D3 (Or.inl (own_w hw 18 rfl)) (ty := .long) (by decide)
  have F3_rest : Fld Z h3 b3 "com/example/violetear/violetear/replay/EvenFetches" "rest" "J" (.long (0 : Int64)) := D3 (Or.inl (own_w hw 20 rfl)) (ty := .long) (by decide)
  refine own_dup (pc' := 35) X3 hx (hb hby at_34) rfl rfl ?_
  refine own_lload (pc' := 37) X3 hx (hb hby at_35) rfl rfl ?_
  refine own_lload (pc' := 39) X3 hx (hb hby at_37) rfl rfl ?_
  have ok : own_Ok v2 v1 := by rw [hv2, hv1]; exact own_ok2 _ _ _ _
  refine own_callN (pc' := 42) (W := 1) (y := (⟨"com/example/violetear/violetear/replay/EvenFetches", "<init>", "(JJ)V"⟩ : MethodName)) X3 hx hZ rfl hown (own_w hw 4 rfl) (own_w hw 5 rfl) (own_w hw 3 rfl) (own_w hw 6 rfl) (by decide) (con1 l Z a0 hw b3 v2 v1 _ n0 z3 A3 F3_denominator F3_stepWhole F3_stepRest F3_whole F3_rest g_b3 (own_nz ok).1 (own_nz ok).2) e3 pd0 b3 [(.long v2), (.long v1)] [(.ref b3)] rfl rfl rfl (Nat.le_of_eq rfl) (by decide) (by decide) (by rw [hml]; rfl) (hb hby at_39) (by decide) (by decide) rfl ?_
  intro v4 T4 L4 X4 q4
  obtain ⟨rfl, M4, K4, E4q, F4_denominator, F4_stepWhole, F4_stepRest, F4_whole, F4_rest⟩ := q4
  obtain ⟨h4, e4⟩ : ∃ z, z = T4.heap := ⟨_, rfl⟩
  rw [← e4] at K4 E4q F4_denominator F4_stepWhole F4_stepRest F4_whole F4_rest
  have e4 := e4.symm
  have z4 : n0 ≤ h4.size := Nat.le_trans z3 K4.1
  have N4 := Fr.app N0 M4
  have I1 := own_init v2 v1 ok
  show own_WP _ _ _ _ _ _ _ (T4.setTop (mkF m 42 #[.val (.long p0), .second, .val (.long p1), .second, .val (.int p2), .val (.long v1), .second, .val (.long v2), .second, .unset, .unset] [(.ref b3)]))
  refine own_astore (pc' := 44) (l' := #[.val (.long p0), .second, .val (.long p1), .second, .val (.int p2), .val (.long v1), .second, .val (.long v2), .second, .val (.ref b3), .unset]) X4 hx (hb hby at_42) rfl rfl rfl ?_
  refine own_aload (pc' := 46) X4 hx (hb hby at_44) rfl rfl rfl ?_
  refine own_callV (pc' := 49) (W := 0) (y := (⟨"com/example/violetear/violetear/replay/EvenFetches", "wholeSeconds", "()J"⟩ : MethodName)) (z := (⟨"com/example/violetear/violetear/replay/EvenFetches", "wholeSeconds", "()J"⟩ : MethodName)) X4 hx hZ hown (own_w hw 21 rfl) (own_w hw 22 rfl) (notFace_of_selects (args := #[]) (mvT hZ (own_w hw 24 rfl))) (own_w hw 24 rfl) (own_w hw 23 rfl) (own_w hw 3 rfl) (own_w hw 25 rfl) (by decide) E4q (conW l Z a0 hw b3 _ (v2 / (2 * v1)) F4_whole) e4 pd1 [] [] rfl rfl rfl (Nat.le_of_eq rfl) (by decide) (by decide) (by rw [hml]; rfl) (hb hby at_46) (by decide) (by decide) rfl ?_
  intro v5 T5 L5 X5 q5
  obtain ⟨r5, rfl, hr5, rfl, e5⟩ := q5
  have N5 := Fr.app N4 (Fr.nil n0)
  show own_WP _ _ _ _ _ _ _ (T5.setTop (mkF m 49 #[.val (.long p0), .second, .val (.long p1), .second, .val (.int p2), .val (.long v1), .second, .val (.long v2), .second, .val (.ref b3), .unset] [(.long r5)]))
  refine own_lload (pc' := 51) X5 hx (hb hby at_49) rfl rfl ?_
  refine own_lload (pc' := 53) X5 hx (hb hby at_51) rfl rfl ?_
  refine own_lconst1 (pc' := 54) X5 hx (hb hby at_53) rfl ?_
  refine own_callS (pc' := 57) (W := 2) (y := (⟨"com/example/violetear/violetear/replay/EvenFetchesAdvancePinLaw", "ref", "(JJJ)J"⟩ : MethodName)) X5 hx hZ hown (own_w hw 26 rfl) (own_w hw 27 rfl) (own_w hw 28 rfl) (own_w hw 29 rfl) (by decide) (conR l Z a0 hw v2 v1 (1 : Int64) _ (own_nz ok).1 (own_nz ok).2) e5 pd2 [(.long v2), (.long v1), (.long (1 : Int64))] [(.long r5)] rfl rfl rfl (Nat.le_of_eq rfl) (by decide) (by decide) (by rw [hml]; rfl) (hb hby at_54) (by decide) (by decide) rfl ?_
  intro v6 T6 L6 X6 q6
  obtain ⟨r6, rfl, hr6, rfl, e6⟩ := q6
  have N6 := Fr.app N5 (Fr.nil n0)
  show own_WP _ _ _ _ _ _ _ (T6.setTop (mkF m 57 #[.val (.long p0), .second, .val (.long p1), .second, .val (.int p2), .val (.long v1), .second, .val (.long v2), .second, .val (.ref b3), .unset] [(.long r6), (.long r5)]))
  refine own_lcmp (pc' := 58) X6 hx (hb hby at_57) rfl ?_
  refine own_ifl_ne (pt := 65) (pf := 61) X6 hx (hb hby at_58) rfl (by decide) rfl (fun hc58 => absurd (by rw [hr5, hr6]; exact own_refok _ _ ok (1 : Int64) 1 (by decide) (by decide) I1) hc58) (fun hc58 => ?_)
  refine own_iconst (pc' := 62) X6 hx (1 : Int32) (hb hby at_61) rfl rfl ?_
  refine own_goto (pc' := 66) X6 hx (hb hby at_62) (by decide) rfl ?_
  refine own_istore (pc' := 68) (l' := #[.val (.long p0), .second, .val (.long p1), .second, .val (.int p2), .val (.long v1), .second, .val (.long v2), .second, .val (.ref b3), .val (.int (1 : Int32))]) X6 hx (hb hby at_66) rfl rfl rfl ?_
  refine own_aload (pc' := 70) X6 hx (hb hby at_68) rfl rfl rfl ?_
  refine own_callV (pc' := 73) (W := 0) (y := (⟨"com/example/violetear/violetear/replay/EvenFetches", "advance", "()V"⟩ : MethodName)) (z := (⟨"com/example/violetear/violetear/replay/EvenFetches", "advance", "()V"⟩ : MethodName)) X6 hx hZ hown (own_w hw 31 rfl) (own_w hw 32 rfl) (notFace_of_selects (args := #[]) (mvT hZ (own_w hw 34 rfl))) (own_w hw 34 rfl) (own_w hw 33 rfl) (own_w hw 3 rfl) (own_w hw 35 rfl) (by decide) E4q (conA l Z a0 hw b3 _ n0 z4 (2 * v1) (v2 / v1) (2 * (v2 % v1)) (v2 / (2 * v1)) (v2 % (2 * v1)) E4q F4_denominator F4_stepWhole F4_stepRest F4_whole F4_rest g_b3) e6 pd3 [] [] rfl rfl rfl (Nat.le_of_eq rfl) (by decide) (by decide) (by rw [hml]; rfl) (hb hby at_70) (by decide) (by decide) rfl ?_
  intro v7 T7 L7 X7 q7
  obtain ⟨wh7, re7, av7, rfl, M7, K7, E7q, F7_denominator, F7_stepWhole, F7_stepRest, F7_whole, F7_rest⟩ := q7
  obtain ⟨h7, e7⟩ : ∃ z, z = T7.heap := ⟨_, rfl⟩
  rw [← e7] at K7 E7q F7_denominator F7_stepWhole F7_stepRest F7_whole F7_rest
  have e7 := e7.symm
  have z7 : n0 ≤ h7.size := Nat.le_trans z4 K7.1
  have N7 := Fr.app N6 M7
  have I3 := own_step v2 v1 ok (n := 1) (by decide) I1 av7
  show own_WP _ _ _ _ _ _ _ (T7.setTop (mkF m 73 #[.val (.long p0), .second, .val (.long p1), .second, .val (.int p2), .val (.long v1), .second, .val (.long v2), .second, .val (.ref b3), .val (.int (1 : Int32))] []))
  refine own_iload (pc' := 75) X7 hx (hb hby at_73) rfl rfl ?_
  refine own_if_eq (pt := 101) (pf := 78) X7 hx (hb hby at_75) rfl (by decide) rfl (fun hc75 => absurd hc75 (by decide)) (fun hc75 => ?_)
  refine own_aload (pc' := 80) X7 hx (hb hby at_78) rfl rfl rfl ?_
  refine own_callV (pc' := 83) (W := 0) (y := (⟨"com/example/violetear/violetear/replay/EvenFetches", "wholeSeconds", "()J"⟩ : MethodName)) (z := (⟨"com/example/violetear/violetear/replay/EvenFetches", "wholeSeconds", "()J"⟩ : MethodName)) X7 hx hZ hown (own_w hw 21 rfl) (own_w hw 22 rfl) (notFace_of_selects (args := #[]) (mvT hZ (own_w hw 24 rfl))) (own_w hw 24 rfl) (own_w hw 23 rfl) (own_w hw 3 rfl) (own_w hw 25 rfl) (by decide) E7q (conW l Z a0 hw b3 _ wh7 F7_whole) e7 pd1 [] [] rfl rfl rfl (Nat.le_of_eq rfl) (by decide) (by decide) (by rw [hml]; rfl) (hb hby at_80) (by decide) (by decide) rfl ?_
  intro v8 T8 L8 X8 q8
  obtain ⟨r8, rfl, hr8, rfl, e8⟩ := q8
  have N8 := Fr.app N7 (Fr.nil n0)
  show own_WP _ _ _ _ _ _ _ (T8.setTop (mkF m 83 #[.val (.long p0), .second, .val (.long p1), .second, .val (.int p2), .val (.long v1), .second, .val (.long v2), .second, .val (.ref b3), .val (.int (1 : Int32))] [(.long r8)]))
  refine own_lload (pc' := 85) X8 hx (hb hby at_83) rfl rfl ?_
  refine own_lload (pc' := 87) X8 hx (hb hby at_85) rfl rfl ?_
  refine own_ldc2Long (pc' := 90) X8 hx hZ hown (own_w hw 36 rfl) (hb hby at_87) rfl ?_
  refine own_callS (pc' := 93) (W := 2) (y := (⟨"com/example/violetear/violetear/replay/EvenFetchesAdvancePinLaw", "ref", "(JJJ)J"⟩ : MethodName)) X8 hx hZ hown (own_w hw 26 rfl) (own_w hw 27 rfl) (own_w hw 28 rfl) (own_w hw 29 rfl) (by decide) (conR l Z a0 hw v2 v1 (3 : Int64) _ (own_nz ok).1 (own_nz ok).2) e8 pd2 [(.long v2), (.long v1), (.long (3 : Int64))] [(.long r8)] rfl rfl rfl (Nat.le_of_eq rfl) (by decide) (by decide) (by rw [hml]; rfl) (hb hby at_90) (by decide) (by decide) rfl ?_
  intro v9 T9 L9 X9 q9
  obtain ⟨r9, rfl, hr9, rfl, e9⟩ := q9
  have N9 := Fr.app N8 (Fr.nil n0)
  show own_WP _ _ _ _ _ _ _ (T9.setTop (mkF m 93 #[.val (.long p0), .second, .val (.long p1), .second, .val (.int p2), .val (.long v1), .second, .val (.long v2), .second, .val (.ref b3), .val (.int (1 : Int32))] [(.long r9), (.long r8)]))
  refine own_lcmp (pc' := 94) X9 hx (hb hby at_93) rfl ?_
  refine own_ifl_ne (pt := 101) (pf := 97) X9 hx (hb hby at_94) rfl (by decide) rfl (fun hc94 => absurd (by rw [hr8, hr9]; exact own_refok _ _ ok (3 : Int64) 3 (by decide) (by decide) I3) hc94) (fun hc94 => ?_)
  refine own_iconst (pc' := 98) X9 hx (1 : Int32) (hb hby at_97) rfl rfl ?_
  refine own_goto (pc' := 102) X9 hx (hb hby at_98) (by decide) rfl ?_
  refine own_istore (pc' := 104) (l' := #[.val (.long p0), .second, .val (.long p1), .second, .val (.int p2), .val (.long v1), .second, .val (.long v2), .second, .val (.ref b3), .val (.int (1 : Int32))]) X9 hx (hb hby at_102) rfl rfl rfl ?_
  refine own_aload (pc' := 106) X9 hx (hb hby at_104) rfl rfl rfl ?_
  refine own_callV (pc' := 109) (W := 0) (y := (⟨"com/example/violetear/violetear/replay/EvenFetches", "advance", "()V"⟩ : MethodName)) (z := (⟨"com/example/violetear/violetear/replay/EvenFetches", "advance", "()V"⟩ : MethodName)) X9 hx hZ hown (own_w hw 31 rfl) (own_w hw 32 rfl) (notFace_of_selects (args := #[]) (mvT hZ (own_w hw 34 rfl))) (own_w hw 34 rfl) (own_w hw 33 rfl) (own_w hw 3 rfl) (own_w hw 35 rfl) (by decide) E7q (conA l Z a0 hw b3 _ n0 z7 (2 * v1) (v2 / v1) (2 * (v2 % v1)) wh7 re7 E7q F7_denominator F7_stepWhole F7_stepRest F7_whole F7_rest g_b3) e9 pd3 [] [] rfl rfl rfl (Nat.le_of_eq rfl) (by decide) (by decide) (by rw [hml]; rfl) (hb hby at_106) (by decide) (by decide) rfl ?_
  intro v10 T10 L10 X10 q10
  obtain ⟨wh10, re10, av10, rfl, M10, K10, E10q, F10_denominator, F10_stepWhole, F10_stepRest, F10_whole, F10_rest⟩ := q10
  obtain ⟨h10, e10⟩ : ∃ z, z = T10.heap := ⟨_, rfl⟩
  rw [← e10] at K10 E10q F10_denominator F10_stepWhole F10_stepRest F10_whole F10_rest
  have e10 := e10.symm
  have z10 : n0 ≤ h10.size := Nat.le_trans z7 K10.1
  have N10 := Fr.app N9 M10
  have I5 := own_step v2 v1 ok (n := 3) (by decide) I3 av10
  show own_WP _ _ _ _ _ _ _ (T10.setTop (mkF m 109 #[.val (.long p0), .second, .val (.long p1), .second, .val (.int p2), .val (.long v1), .second, .val (.long v2), .second, .val (.ref b3), .val (.int (1 : Int32))] []))
  refine own_iload (pc' := 111) X10 hx (hb hby at_109) rfl rfl ?_
  refine own_if_eq (pt := 137) (pf := 114) X10 hx (hb hby at_111) rfl (by decide) rfl (fun hc111 => absurd hc111 (by decide)) (fun hc111 => ?_)
  refine own_aload (pc' := 116) X10 hx (hb hby at_114) rfl rfl rfl ?_
  refine own_callV (pc' := 119) (W := 0) (y := (⟨"com/example/violetear/violetear/replay/EvenFetches", "wholeSeconds", "()J"⟩ : MethodName)) (z := (⟨"com/example/violetear/violetear/replay/EvenFetches", "wholeSeconds", "()J"⟩ : MethodName)) X10 hx hZ hown (own_w hw 21 rfl) (own_w hw 22 rfl) (notFace_of_selects (args := #[]) (mvT hZ (own_w hw 24 rfl))) (own_w hw 24 rfl) (own_w hw 23 rfl) (own_w hw 3 rfl) (own_w hw 25 rfl) (by decide) E10q (conW l Z a0 hw b3 _ wh10 F10_whole) e10 pd1 [] [] rfl rfl rfl (Nat.le_of_eq rfl) (by decide) (by decide) (by rw [hml]; rfl) (hb hby at_116) (by decide) (by decide) rfl ?_
  intro v11 T11 L11 X11 q11
  obtain ⟨r11, rfl, hr11, rfl, e11⟩ := q11
  have N11 := Fr.app N10 (Fr.nil n0)
  show own_WP _ _ _ _ _ _ _ (T11.setTop (mkF m 119 #[.val (.long p0), .second, .val (.long p1), .second, .val (.int p2), .val (.long v1), .second, .val (.long v2), .second, .val (.ref b3), .val (.int (1 : Int32))] [(.long r11)]))
  refine own_lload (pc' := 121) X11 hx (hb hby at_119) rfl rfl ?_
  refine own_lload (pc' := 123) X11 hx (hb hby at_121) rfl rfl ?_
  refine own_ldc2Long (pc' := 126) X11 hx hZ hown (own_w hw 37 rfl) (hb hby at_123) rfl ?_
  refine own_callS (pc' := 129) (W := 2) (y := (⟨"com/example/violetear/violetear/replay/EvenFetchesAdvancePinLaw", "ref", "(JJJ)J"⟩ : MethodName)) X11 hx hZ hown (own_w hw 26 rfl) (own_w hw 27 rfl) (own_w hw 28 rfl) (own_w hw 29 rfl) (by decide) (conR l Z a0 hw v2 v1 (5 : Int64) _ (own_nz ok).1 (own_nz ok).2) e11 pd2 [(.long v2), (.long v1), (.long (5 : Int64))] [(.long r11)] rfl rfl rfl (Nat.le_of_eq rfl) (by decide) (by decide) (by rw [hml]; rfl) (hb hby at_126) (by decide) (by decide) rfl ?_
  intro v12 T12 L12 X12 q12
  obtain ⟨r12, rfl, hr12, rfl, e12⟩ := q12
  have N12 := Fr.app N11 (Fr.nil n0)
  show own_WP _ _ _ _ _ _ _ (T12.setTop (mkF m 129 #[.val (.long p0), .second, .val (.long p1), .second, .val (.int p2), .val (.long v1), .second, .val (.long v2), .second, .val (.ref b3), .val (.int (1 : Int32))] [(.long r12), (.long r11)]))
  refine own_lcmp (pc' := 130) X12 hx (hb hby at_129) rfl ?_
  refine own_ifl_ne (pt := 137) (pf := 133) X12 hx (hb hby at_130) rfl (by decide) rfl (fun hc130 => absurd (by rw [hr11, hr12]; exact own_refok _ _ ok (5 : Int64) 5 (by decide) (by decide) I5) hc130) (fun hc130 => ?_)
  refine own_iconst (pc' := 134) X12 hx (1 : Int32) (hb hby at_133) rfl rfl ?_
  refine own_goto (pc' := 138) X12 hx (hb hby at_134) (by decide) rfl ?_
  refine own_istore (pc' := 140) (l' := #[.val (.long p0), .second, .val (.long p1), .second, .val (.int p2), .val (.long v1), .second, .val (.long v2), .second, .val (.ref b3), .val (.int (1 : Int32))]) X12 hx (hb hby at_138) rfl rfl rfl ?_
  refine own_aload (pc' := 142) X12 hx (hb hby at_140) rfl rfl rfl ?_
  refine own_callV (pc' := 145) (W := 0) (y := (⟨"com/example/violetear/violetear/replay/EvenFetches", "advance", "()V"⟩ : MethodName)) (z := (⟨"com/example/violetear/violetear/replay/EvenFetches", "advance", "()V"⟩ : MethodName)) X12 hx hZ hown (own_w hw 31 rfl) (own_w hw 32 rfl) (notFace_of_selects (args := #[]) (mvT hZ (own_w hw 34 rfl))) (own_w hw 34 rfl) (own_w hw 33 rfl) (own_w hw 3 rfl) (own_w hw 35 rfl) (by decide) E10q (conA l Z a0 hw b3 _ n0 z10 (2 * v1) (v2 / v1) (2 * (v2 % v1)) wh10 re10 E10q F10_denominator F10_stepWhole F10_stepRest F10_whole F10_rest g_b3) e12 pd3 [] [] rfl rfl rfl (Nat.le_of_eq rfl) (by decide) (by decide) (by rw [hml]; rfl) (hb hby at_142) (by decide) (by decide) rfl ?_
  intro v13 T13 L13 X13 q13
  obtain ⟨wh13, re13, av13, rfl, M13, K13, E13q, F13_denominator, F13_stepWhole, F13_stepRest, F13_whole, F13_rest⟩ := q13
  obtain ⟨h13, e13⟩ : ∃ z, z = T13.heap := ⟨_, rfl⟩
  rw [← e13] at K13 E13q F13_denominator F13_stepWhole F13_stepRest F13_whole F13_rest
  have e13 := e13.symm
  have z13 : n0 ≤ h13.size := Nat.le_trans z10 K13.1
  have N13 := Fr.app N12 M13
  have I7 := own_step v2 v1 ok (n := 5) (by decide) I5 av13
  show own_WP _ _ _ _ _ _ _ (T13.setTop (mkF m 145 #[.val (.long p0), .second, .val (.long p1), .second, .val (.int p2), .val (.long v1), .second, .val (.long v2), .second, .val (.ref b3), .val (.int (1 : Int32))] []))
  refine own_iload (pc' := 147) X13 hx (hb hby at_145) rfl rfl ?_
  refine own_if_eq (pt := 173) (pf := 150) X13 hx (hb hby at_147) rfl (by decide) rfl (fun hc147 => absurd hc147 (by decide)) (fun hc147 => ?_)
  refine own_aload (pc' := 152) X13 hx (hb hby at_150) rfl rfl rfl ?_
  refine own_callV (pc' := 155) (W := 0) (y := (⟨"com/example/violetear/violetear/replay/EvenFetches", "wholeSeconds", "()J"⟩ : MethodName)) (z := (⟨"com/example/violetear/violetear/replay/EvenFetches", "wholeSeconds", "()J"⟩ : MethodName)) X13 hx hZ hown (own_w hw 21 rfl) (own_w hw 22 rfl) (notFace_of_selects (args := #[]) (mvT hZ (own_w hw 24 rfl))) (own_w hw 24 rfl) (own_w hw 23 rfl) (own_w hw 3 rfl) (own_w hw 25 rfl) (by decide) E13q (conW l Z a0 hw b3 _ wh13 F13_whole) e13 pd1 [] [] rfl rfl rfl (Nat.le_of_eq rfl) (by decide) (by decide) (by rw [hml]; rfl) (hb hby at_152) (by decide) (by decide) rfl ?_
  intro v14 T14 L14 X14 q14
  obtain ⟨r14, rfl, hr14, rfl, e14⟩ := q14
  have N14 := Fr.app N13 (Fr.nil n0)
  show own_WP _ _ _ _ _ _ _ (T14.setTop (mkF m 155 #[.val (.long p0), .second, .val (.long p1), .second, .val (.int p2), .val (.long v1), .second, .val (.long v2), .second, .val (.ref b3), .val (.int (1 : Int32))] [(.long r14)]))
  refine own_lload (pc' := 157) X14 hx (hb hby at_155) rfl rfl ?_
  refine own_lload (pc' := 159) X14 hx (hb hby at_157) rfl rfl ?_
  refine own_ldc2Long (pc' := 162) X14 hx hZ hown (own_w hw 38 rfl) (hb hby at_159) rfl ?_
  refine own_callS (pc' := 165) (W := 2) (y := (⟨"com/example/violetear/violetear/replay/EvenFetchesAdvancePinLaw", "ref", "(JJJ)J"⟩ : MethodName)) X14 hx hZ hown (own_w hw 26 rfl) (own_w hw 27 rfl) (own_w hw 28 rfl) (own_w hw 29 rfl) (by decide) (conR l Z a0 hw v2 v1 (7 : Int64) _ (own_nz ok).1 (own_nz ok).2) e14 pd2 [(.long v2), (.long v1), (.long (7 : Int64))] [(.long r14)] rfl rfl rfl (Nat.le_of_eq rfl) (by decide) (by decide) (by rw [hml]; rfl) (hb hby at_162) (by decide) (by decide) rfl ?_
  intro v15 T15 L15 X15 q15
  obtain ⟨r15, rfl, hr15, rfl, e15⟩ := q15
  have N15 := Fr.app N14 (Fr.nil n0)
  show own_WP _ _ _ _ _ _ _ (T15.setTop (mkF m 165 #[.val (.long p0), .second, .val (.long p1), .second, .val (.int p2), .val (.long v1), .second, .val (.long v2), .second, .val (.ref b3), .val (.int (1 : Int32))] [(.long r15), (.long r14)]))
  refine own_lcmp (pc' := 166) X15 hx (hb hby at_165) rfl ?_
  refine own_ifl_ne (pt := 173) (pf := 169) X15 hx (hb hby at_166) rfl (by decide) rfl (fun hc166 => absurd (by rw [hr14, hr15]; exact own_refok _ _ ok (7 : Int64) 7 (by decide) (by decide) I7) hc166) (fun hc166 => ?_)
  refine own_iconst (pc' := 170) X15 hx (1 : Int32) (hb hby at_169) rfl rfl ?_
  refine own_goto (pc' := 174) X15 hx (hb hby at_170) (by decide) rfl ?_
  refine own_istore (pc' := 176) (l' := #[.val (.long p0), .second, .val (.long p1), .second, .val (.int p2), .val (.long v1), .second, .val (.long v2), .second, .val (.ref b3), .val (.int (1 : Int32))]) X15 hx (hb hby at_174) rfl rfl rfl ?_
  refine own_iload (pc' := 178) X15 hx (hb hby at_176) rfl rfl ?_
  refine own_retN X15 hx hlk (t := .boolean) (by decide) hret (hb hby at_178) (by decide) (by decide) ?_
  exact ⟨rfl, N15⟩
set_option maxRecDepth 65536 in
set_option maxHeartbeats 4000000 in
theorem comes_1 {Post : Tables → Env → Array Value → Jvm.State → Outcome → Jvm.State → Prop} (hpost : ∀ tb e args s v u, (limb_1_1.after args s (.returned v) u = true ∧ limb_1_2.after args s (.returned v) u = true ∧ True) → FrameEnd s (.returned v) u (Jvm.fieldLocs frame_1_writes args s ++ Jvm.arrayLocs frame_1_arrays args s ++ Jvm.staticLocs frame_1_statics s) 16 128 → Post tb e args s (.returned v) u) :
    ArmFor flags0 classFile x code maxLocals ret World_1 tables_1 room_1 Calls_1 rest_1 Pre_1 Post := by
  intro l hfl _ _ p e ha hc hk s m args below hf hA hF happ hP
  obtain ⟨hcalls, hrest, hpre⟩ := hP
  obtain ⟨-, -, -, hnamed, -, -, -, hat⟩ := (Spec.applies_iff hf).mp happ
  obtain ⟨hg, hn⟩ := and_e (Cond.before_iff.mp (show (Jvm.Cond.and given_1 narrow_1).before args s = true from hpre))
  obtain ⟨u1, u2⟩ := and_e hg
  obtain ⟨u3, u4⟩ := and_e u2
  obtain ⟨u5, u6⟩ := and_e u4
  obtain ⟨w0, w1, w2, rfl⟩ : ∃ w0 w1 w2 : Value, args = #[w0, w1, w2] := by
    have hs : args.size = 3 := by simpa [Cond.value, given_1] using u1
    obtain ⟨L⟩ := args
    match L, hs with
    | [w0, w1, w2], _ => exact ⟨w0, w1, w2, rfl⟩
  have hw := fun d (hd : d ∈ tables_1) => atoms_spec (ws := Jvm.Cond.code x code maxLocals ret :: tables_1) hat d (List.mem_cons_of_mem _ hd)
  obtain ⟨i0, ei0⟩ := isL_v u3
  obtain rfl : w0 = (.long i0) := Option.some.inj ei0
  obtain ⟨i1, ei1⟩ := isL_v u5
  obtain rfl : w1 = (.long i1) := Option.some.inj ei1
  obtain ⟨i2, ei2⟩ := is_v u6
  obtain rfl : w2 = (.int i2) := Option.some.inj ei2
  obtain ⟨n, o, h1, h2, h3, _, L, rfl, ⟨rfl, N⟩, hq⟩ := con0 l s _ hw i0 i1 i2 s.heap s.heap.size (Nat.le_refl _)  tables_1 p e ha hc hk s m _ below hf ((Spec.applies_iff_loose hf).mp happ).1 ⟨rfl, State.Warmed39.refl s, rfl⟩ trivial
  refine ⟨n, _, h1, h2, h3, hpost _ _ _ _ _ _ ⟨Cond.after_iff.mpr rfl, Cond.after_iff.mpr (eq_i res_at (Term.int_eval (1)) rfl), trivial⟩ ⟨hq.1, hq.2.1, (hq.2.2.sift fun y hy => Or.inr (N y hy)).mono (by decide) (by decide)⟩⟩
theorem main_1_1 : Claimed_1_1 := comes_1 fun _ _ _ _ _ _ h hF => ⟨h.1, hF⟩
theorem main_1_2 : Claimed_1_2 := comes_1 fun _ _ _ _ _ _ h hF => ⟨h.2.1, hF⟩
end Jvm.Pilot.@@N@@
namespace Jvm.Pilot.@@N@@
open Jvm Jvm.ClassFile Sem Op Lib Jvm.Free Jvm.Stand Jvm.Pilot.@@N@@.Jvm.D
/-! MADE BY PROGRAM (witnessworld.py) out of the Statement's table words and the real class files: 9 classes; the members and pool entries that the words name. The judged class is class 1, her method 2. -/
namespace start1
open Jvm.ClassFile
def u (s : String) : CpInfo := .utf8 (stringToUtf16 s)
/-- a pool by its gaps: so many unusable entries, then the entry; so many at the end -/
def gap : Nat → List CpInfo → List CpInfo
  | 0, r => r
  | n + 1, r => .unusable :: gap n r
def poolList (es : List (Nat × CpInfo)) (last : Nat) : List CpInfo := es.foldr (fun e r => gap e.1 (e.2 :: r)) (gap last [])
def pool (es : List (Nat × CpInfo)) (last : Nat) : Array CpInfo := ⟨poolList es last⟩
def fileOf (pool : Array CpInfo) (this : Nat) (attrs : Array Attribute := #[]) (ms : Array MethodInfo := #[]) (fl : Nat := 33) (sup : Nat := 0) (ifs : Array Nat := #[]) (fds : Array FieldInfo := #[]) : ClassFile where
  minorVersion := 0
  majorVersion := 65
  constantPool := pool
  accessFlags := fl
  thisClass := this
  superClass := sup
  interfaces := ifs
  fields := fds
  methods := ms
  attributes := attrs
def plain (name : String) (sup : Option ClassId) : Class where
  name := name
  kind := .ordinary
  loader := none
  accessFlags := 33
  super := sup
  interfaces := #[]
  cf := none
  fields := #[]
  methods := #[]
  instanceTypes := #[]
  staticTypes := #[]
  resolved := #[]
  callSites := []
  init := .initialized
  statics := none
  mirror := none

def pool0 : Array CpInfo := pool [(5, u "<init>"), (0, u "()V"), (1, .class_ 10), (1, u "java/lang/Object")] 113

def k0c0 : Code := { maxStack := 0, maxLocals := 1, code := object_method_1_code, exceptionTable := #[], attributes := #[] }
def k0m0 : Method := { name := "<init>", desc := "()V", sig := { parameters := [], returnType := none }, accessFlags := 1, code := some k0c0 }
/-- java/lang/Object -/
def k0 : Class := { plain "java/lang/Object" none with
  accessFlags := 33
  interfaces := #[]
  cf := some (fileOf pool0 8 #[] #[{ accessFlags := 1, nameIndex := 5, descriptorIndex := 6, attributes := #[] }] 33 0 #[] #[])
  fields := #[]
  methods := #[k0m0]
  instanceTypes := #[]
  staticTypes := #[]
  resolved := Array.replicate 124 none
  statics := none }

def pool1 : Array CpInfo := pool [(2, .class_ 4), (1, u "java/lang/Object"), (0, u "<init>"), (0, u "()V"), (0, .long 2), (1, .class_ 10), (0, u "com/example/violetear/violetear/replay/EvenFetchesAdvancePinLaw"), (0, .long 1152921504606846975), (1, .class_ 14), (0, u "com/example/violetear/violetear/replay/EvenFetches"), (0, .methodref 13 16), (0, .nameAndType 5 17), (0, u "(JJ)V"), (0, .methodref 13 19), (0, .nameAndType 20 21), (0, u "wholeSeconds"), (0, u "()J"), (0, .methodref 9 23), (0, .nameAndType 24 25), (0, u "ref"), (0, u "(JJJ)J"), (0, .methodref 13 27), (0, .nameAndType 28 6), (0, u "advance"), (0, .long 3), (1, .long 5), (1, .long 7), (1, u "MASK"), (0, u "J"), (3, u "law"), (0, u "(JJI)Z")] 3

def k1m0 : Method := { name := "<init>", desc := "()V", sig := { parameters := [], returnType := none }, accessFlags := 1, code := none }
def k1c1 : Code := { maxStack := 8, maxLocals := 16, code := method_2_code, exceptionTable := #[], attributes := #[] }
def k1m1 : Method := { name := "ref", desc := "(JJJ)J", sig := { parameters := [.long, .long, .long], returnType := some .long }, accessFlags := 10, code := some k1c1 }
def k1c2 : Code := { maxStack := 8, maxLocals := 11, code := code, exceptionTable := #[], attributes := #[] }
def k1m2 : Method := { name := "law", desc := "(JJI)Z", sig := { parameters := [.long, .long, .int], returnType := some .boolean }, accessFlags := 9, code := some k1c2 }
/-- com/example/violetear/violetear/replay/EvenFetchesAdvancePinLaw -/
def k1 : Class := { plain "com/example/violetear/violetear/replay/EvenFetchesAdvancePinLaw" (some 0) with
  accessFlags := 49
  interfaces := #[]
  cf := some (fileOf pool1 9 #[] #[{ accessFlags := 1, nameIndex := 5, descriptorIndex := 6, attributes := #[] }, { accessFlags := 10, nameIndex := 24, descriptorIndex := 25, attributes := #[] }, { accessFlags := 9, nameIndex := 40, descriptorIndex := 41, attributes := #[] }] 49 2 #[] #[{ accessFlags := 26, nameIndex := 35, descriptorIndex := 36, attributes := #[] }])
  fields := #[{ name := "MASK", type := .long, accessFlags := 26, slot := 0, constantValue := 0 }]
  methods := #[k1m0, k1m1, k1m2]
  instanceTypes := #[]
  staticTypes := #[.long]
  resolved := Array.replicate 45 none
  statics := none }

def pool2 : Array CpInfo := pool [(1, .methodref 2 3), (0, .class_ 4), (0, .nameAndType 5 6), (0, u "java/lang/Object"), (0, u "<init>"), (0, u "()V"), (0, .long 2), (1, .fieldref 10 11), (0, .class_ 12), (0, .nameAndType 13 14), (0, u "com/example/violetear/violetear/replay/EvenFetches"), (0, u "denominator"), (0, u "J"), (0, .fieldref 10 16), (0, .nameAndType 17 14), (0, u "stepWhole"), (0, .fieldref 10 19), (0, .nameAndType 20 14), (0, u "stepRest"), (0, .fieldref 10 22), (0, .nameAndType 23 14), (0, u "whole"), (0, .fieldref 10 25), (0, .nameAndType 26 14), (0, u "rest"), (0, u "(JJ)V"), (2, u "wholeSeconds"), (0, u "()J"), (2, u "advance")] 3

def k2c0 : Code := { maxStack := 7, maxLocals := 5, code := prog_96_method_1_code, exceptionTable := #[], attributes := #[] }
def k2m0 : Method := { name := "<init>", desc := "(JJ)V", sig := { parameters := [.long, .long], returnType := none }, accessFlags := 0, code := some k2c0 }
def k2c1 : Code := { maxStack := 2, maxLocals := 1, code := prog_96_method_2_code, exceptionTable := #[], attributes := #[] }
def k2m1 : Method := { name := "wholeSeconds", desc := "()J", sig := { parameters := [], returnType := some .long }, accessFlags := 0, code := some k2c1 }
def k2c2 : Code := { maxStack := 5, maxLocals := 1, code := prog_96_method_4_code, exceptionTable := #[], attributes := #[] }
def k2m2 : Method := { name := "advance", desc := "()V", sig := { parameters := [], returnType := none }, accessFlags := 0, code := some k2c2 }
/-- com/example/violetear/violetear/replay/EvenFetches -/
def k2 : Class := { plain "com/example/violetear/violetear/replay/EvenFetches" (some 0) with
  accessFlags := 48
  interfaces := #[]
  cf := some (fileOf pool2 10 #[] #[{ accessFlags := 0, nameIndex := 5, descriptorIndex := 27, attributes := #[] }, { accessFlags := 0, nameIndex := 30, descriptorIndex := 31, attributes := #[] }, { accessFlags := 0, nameIndex := 34, descriptorIndex := 6, attributes := #[] }] 48 2 #[] #[{ accessFlags := 18, nameIndex := 13, descriptorIndex := 14, attributes := #[] }, { accessFlags := 18, nameIndex := 17, descriptorIndex := 14, attributes := #[] }, { accessFlags := 18, nameIndex := 20, descriptorIndex := 14, attributes := #[] }, { accessFlags := 2, nameIndex := 23, descriptorIndex := 14, attributes := #[] }, { accessFlags := 2, nameIndex := 26, descriptorIndex := 14, attributes := #[] }])
  fields := #[{ name := "denominator", type := .long, accessFlags := 18, slot := 0, constantValue := 0 }, { name := "stepWhole", type := .long, accessFlags := 18, slot := 1, constantValue := 0 }, { name := "stepRest", type := .long, accessFlags := 18, slot := 2, constantValue := 0 }, { name := "whole", type := .long, accessFlags := 2, slot := 3, constantValue := 0 }, { name := "rest", type := .long, accessFlags := 2, slot := 4, constantValue := 0 }]
  methods := #[k2m0, k2m1, k2m2]
  instanceTypes := #[.long, .long, .long, .long, .long]
  staticTypes := #[]
  resolved := Array.replicate 38 none
  statics := none }

def pool3 : Array CpInfo := pool [(1, u "java/lang/Cloneable"), (0, .class_ 1), (0, u "java/lang/Object"), (0, .class_ 3)] 3

/-- java/lang/Cloneable -/
def k3 : Class := { plain "java/lang/Cloneable" (some 0) with
  accessFlags := 1537
  interfaces := #[]
  cf := some (fileOf pool3 2 #[] #[] 1537 4 #[] #[])
  fields := #[]
  methods := #[]
  instanceTypes := #[]
  staticTypes := #[]
  resolved := Array.replicate 8 none
  statics := none }

def pool4 : Array CpInfo := pool [(1, u "java/io/Serializable"), (0, .class_ 1), (0, u "java/lang/Object"), (0, .class_ 3)] 3

/-- java/io/Serializable -/
def k4 : Class := { plain "java/io/Serializable" (some 0) with
  accessFlags := 1537
  interfaces := #[]
  cf := some (fileOf pool4 2 #[] #[] 1537 4 #[] #[])
  fields := #[]
  methods := #[]
  instanceTypes := #[]
  staticTypes := #[]
  resolved := Array.replicate 8 none
  statics := none }

/-- the primitive byte -/
def k5 : Class := { plain "byte" none with kind := .primitive 'B', accessFlags := 0x411 }
/-- [B -/
def k6 : Class := { plain "[B" (some 0) with kind := .array 5 .byte, interfaces := #[3, 4], accessFlags := 1041 }

/-- the primitive int -/
def k7 : Class := { plain "int" none with kind := .primitive 'I', accessFlags := 0x411 }
/-- [I -/
def k8 : Class := { plain "[I" (some 0) with kind := .array 7 .int, interfaces := #[3, 4], accessFlags := 1041 }

def heap : Heap := #[]
def classes : Array Class := #[k0, k1, k2, k3, k4, k5, k6, k7, k8]
def interned : List (Array UInt16 × Addr) := []
def slotsUsed : Nat := 0
def theMethod : MethodId := ⟨1, 2⟩
def args0 : Array Value := #[.long 5, .long 3, .int 1]
def aboutOver (below : List Frame) : State where
  vm := { classes := classes, interned := interned.toArray }
  heap := heap
  slotsUsed := slotsUsed
  threads := #[{ frames := .invoking theMethod args0 :: below }]
def below0 : List Frame := [.native { method := ⟨0, 0⟩, args := #[] }]
def about1 : State := aboutOver below0
def p0 : Program := .bare "" "" ""
def e0 : Env := launch0.env 0 0 0
theorem w_frames : about1.frames = Frame.invoking theMethod args0 :: below0 := rfl
set_option maxRecDepth 65536 in
theorem w_args : argsFit about1.vm theMethod args0 = true := by decide +kernel
set_option maxRecDepth 65536 in
theorem w_heap : heapFits about1 = true := by decide +kernel
set_option maxRecDepth 65536 in
theorem w_runnable : about1.curStatus? = some .runnable := by decide +kernel
set_option maxRecDepth 65536 in
theorem w_alone : about1.alone = true := by decide +kernel
set_option maxRecDepth 65536 in
theorem w_named : about1.methodNamed? x = some theMethod := by decide +kernel
set_option maxRecDepth 65536 in
theorem w_hears : about1.hears theMethod below0 = true := by decide +kernel
set_option maxRecDepth 65536 in
theorem w_ripe : about1.ripe theMethod args0 below0 = true := by decide +kernel
theorem w_running : about1.status = .running := rfl
set_option maxRecDepth 65536 in
theorem w_room : about1.hasRoom e0.platform room_1 = true :=
  launch0.hasRoom_least _ room_1 (by decide +kernel) (by decide +kernel) (by decide +kernel) (by decide +kernel) (by decide +kernel) (by decide +kernel)
theorem allAtoms_all (ts : List Jvm.Cond) (a : Array Jvm.Value) (st : Jvm.State) : (allAtoms ts).before a st = ts.all (fun c => c.before a st) := by
  induction ts with
  | nil => rfl
  | cons c t ih =>
    show (Jvm.Cond.and c (allAtoms t)).before a st = _
    rw [Jvm.Cond.before_and, ih, List.all_cons]
def words1 : List Jvm.Cond := Jvm.Cond.code x code maxLocals ret :: tables_1
/-- a 'code' word, met by the world's own term for the bytes: nothing is compared byte by byte -/
theorem code_word {y : MethodName} {bytes : ByteArray} {mx : Nat} {rt : Option FieldType} {a : Array Value} {s : State} {m : MethodId} {meth : Method} {c : Code} (h1 : s.methodNamed? y = some m) (h2 : s.vm.method? m = some meth) (h3 : meth.code = some c) (h4 : c.code = bytes)
    (h5 : (c.maxLocals == mx && c.exceptionTable.isEmpty && decide (c.maxStack ≤ mostOperands) && decide (meth.sig.returnType = rt) && !meth.locks && decide (parseMethodDescriptor y.desc = some meth.sig)) = true) : (Jvm.Cond.code y bytes mx rt).before a s = true := by
  simp only [Bool.and_eq_true, beq_iff_eq, Bool.not_eq_true', decide_eq_true_eq] at h5
  obtain ⟨⟨⟨⟨⟨g1, g2⟩, g3⟩, g4⟩, g5⟩, g6⟩ := h5
  simp [Cond.before, Cond.holds, Cond.value, h1, h2, h3, h4, g1, g2, g3, g4, g5, g6]
def isCode : Jvm.Cond → Bool
  | .code _ _ _ _ => true
  | _ => false
theorem all_split {L : List Jvm.Cond} {P : Jvm.Cond → Bool} (h1 : L.all (fun c => isCode c || P c) = true) (h2 : ∀ c ∈ L.filter isCode, P c = true) : L.all P = true := by
  refine List.all_eq_true.mpr fun c hc => ?_
  have h := List.all_eq_true.mp h1 c hc
  rcases Bool.eq_false_or_eq_true (isCode c) with hi | hi
  · exact h2 c (List.mem_filter.mpr ⟨hc, hi⟩)
  · simpa [hi] using h
set_option maxRecDepth 65536 in
theorem w_c0 : (Jvm.Cond.code x code maxLocals ret).before args0 about1 = true := code_word (m := ⟨1, 2⟩) (meth := k1m2) (c := k1c2) (by decide +kernel) rfl rfl rfl (by decide +kernel)
set_option maxRecDepth 65536 in
theorem w_c1 : (Jvm.Cond.code ({ cls := "com/example/violetear/violetear/replay/EvenFetches", name := "<init>", desc := "(JJ)V" } : Jvm.MethodName) prog_96_method_1_code (5 : Nat) (Option.none : Option Jvm.ClassFile.FieldType)).before args0 about1 = true := code_word (m := ⟨2, 0⟩) (meth := k2m0) (c := k2c0) (by decide +kernel) rfl rfl rfl (by decide +kernel)
set_option maxRecDepth 65536 in
theorem w_c2 : (Jvm.Cond.code ({ cls := "java/lang/Object", name := "<init>", desc := "()V" } : Jvm.MethodName) object_method_1_code (1 : Nat) (Option.none : Option Jvm.ClassFile.FieldType)).before args0 about1 = true := code_word (m := ⟨0, 0⟩) (meth := k0m0) (c := k0c0) (by decide +kernel) rfl rfl rfl (by decide +kernel)
set_option maxRecDepth 65536 in
theorem w_c3 : (Jvm.Cond.code ({ cls := "com/example/violetear/violetear/replay/EvenFetches", name := "wholeSeconds", desc := "()J" } : Jvm.MethodName) prog_96_method_2_code (1 : Nat) (Option.some Jvm.ClassFile.FieldType.long)).before args0 about1 = true := code_word (m := ⟨2, 1⟩) (meth := k2m1) (c := k2c1) (by decide +kernel) rfl rfl rfl (by decide +kernel)
set_option maxRecDepth 65536 in
theorem w_c4 : (Jvm.Cond.code ({ cls := "com/example/violetear/violetear/replay/EvenFetchesAdvancePinLaw", name := "ref", desc := "(JJJ)J" } : Jvm.MethodName) method_2_code (16 : Nat) (Option.some Jvm.ClassFile.FieldType.long)).before args0 about1 = true := code_word (m := ⟨1, 1⟩) (meth := k1m1) (c := k1c1) (by decide +kernel) rfl rfl rfl (by decide +kernel)
set_option maxRecDepth 65536 in
theorem w_c5 : (Jvm.Cond.code ({ cls := "com/example/violetear/violetear/replay/EvenFetches", name := "advance", desc := "()V" } : Jvm.MethodName) prog_96_method_4_code (1 : Nat) (Option.none : Option Jvm.ClassFile.FieldType)).before args0 about1 = true := code_word (m := ⟨2, 2⟩) (meth := k2m2) (c := k2c2) (by decide +kernel) rfl rfl rfl (by decide +kernel)
def codes1 : List Jvm.Cond := [Jvm.Cond.code x code maxLocals ret, Jvm.Cond.code ({ cls := "com/example/violetear/violetear/replay/EvenFetches", name := "<init>", desc := "(JJ)V" } : Jvm.MethodName) prog_96_method_1_code (5 : Nat) (Option.none : Option Jvm.ClassFile.FieldType), Jvm.Cond.code ({ cls := "java/lang/Object", name := "<init>", desc := "()V" } : Jvm.MethodName) object_method_1_code (1 : Nat) (Option.none : Option Jvm.ClassFile.FieldType), Jvm.Cond.code ({ cls := "com/example/violetear/violetear/replay/EvenFetches", name := "wholeSeconds", desc := "()J" } : Jvm.MethodName) prog_96_method_2_code (1 : Nat) (Option.some Jvm.ClassFile.FieldType.long), Jvm.Cond.code ({ cls := "com/example/violetear/violetear/replay/EvenFetchesAdvancePinLaw", name := "ref", desc := "(JJJ)J" } : Jvm.MethodName) method_2_code (16 : Nat) (Option.some Jvm.ClassFile.FieldType.long), Jvm.Cond.code ({ cls := "com/example/violetear/violetear/replay/EvenFetches", name := "advance", desc := "()V" } : Jvm.MethodName) prog_96_method_4_code (1 : Nat) (Option.none : Option Jvm.ClassFile.FieldType)]
set_option maxRecDepth 65536 in
theorem codes_eq : words1.filter isCode = codes1 := rfl
theorem w_codes : ∀ c ∈ words1.filter isCode, c.before args0 about1 = true := by
  rw [codes_eq]
  intro c hc
  simp only [codes1, List.mem_cons, List.not_mem_nil, or_false] at hc
  rcases hc with rfl | rfl | rfl | rfl | rfl | rfl
  · exact w_c0
  · exact w_c1
  · exact w_c2
  · exact w_c3
  · exact w_c4
  · exact w_c5
set_option maxRecDepth 65536 in
theorem w_t1 : (words1.take 24).all (fun c => isCode c || c.before args0 about1) = true := by decide +kernel
set_option maxRecDepth 65536 in
theorem w_t2 : (words1.drop 24).all (fun c => isCode c || c.before args0 about1) = true := by decide +kernel
theorem w_tables : (allAtoms (Jvm.Cond.code x code maxLocals ret :: tables_1)).before args0 about1 = true := by
  rw [allAtoms_all]
  show words1.all (fun c => c.before args0 about1) = true
  refine all_split ?_ w_codes
  rw [← List.take_append_drop 24 words1, List.all_append, w_t1, w_t2]
  rfl
set_option maxRecDepth 65536 in
theorem w_case : (Jvm.Cond.and given_1 narrow_1).before args0 about1 = true := by decide +kernel
theorem w_applies : (headSpec (Jvm.Cond.code x code maxLocals ret :: tables_1) room_1).applies x e0.platform about1 = true :=
  (Spec.applies_iff w_frames).mpr ⟨w_running, w_runnable, w_alone, w_named, w_hears, w_ripe, w_room, w_tables⟩
theorem atStart : AtStart classFile x code maxLocals ret World_1 tables_1 room_1 Calls_1 rest_1 Pre_1 launch0 p0 e0 about1 theMethod args0 below0 :=
  ⟨lists_1, trivial, launch0.admits_env _ _ _, launch0.least_env, fairChoices_fair.cas, fairChoices_fair.clock, w_frames, w_args, w_heap, w_applies, trivial, trivial, w_case⟩
end start1
theorem witness_1 : WitnessClaimed_1 := ⟨start1.p0, start1.e0, start1.about1, start1.theMethod, start1.args0, start1.below0, start1.atStart⟩
end Jvm.Pilot.@@N@@
