import JvmDerived
import JvmDerived.Pilot.@@N@@Statement
import JvmDerived.Pilot.@@N@@Code
set_option linter.unusedVariables false
set_option linter.unusedSimpArgs false
namespace Jvm.Pilot.@@N@@
open Jvm Jvm.ClassFile Sem Op Lib Jvm.Free Jvm.Stand Jvm.LawKit Jvm.RoadKit Bundle Jvm.Pilot.@@N@@.Jvm.D
section OwnKit
variable {p : Program} {l : Launch} {e : Env} {R : Room} {s : State} {m : MethodId} {args : Array Value} {below : List Frame} {meth : Method} {c : Code} {T : State} {locs : List Loc} {cells slots kc ks : Nat} {Z : State} {a0 : Array Value} {own nm : String} {bytes : ByteArray} {ml : Nat} {ret : Option FieldType} {Q : Option Value → Heap → Prop} {h h' : Heap} {pc pc' : Nat} {ls ls' : Array Slot} {st st' rest : List Value}
/-- what is left to show where the run stands at S -/
def OGoal (p : Program) (e : Env) (below : List Frame) (s : State) (kc ks n0 : Nat) (Q : Option Value → Heap → Prop) (S : State) : Prop :=
  ∃ s₂ o, Steps p.tables e below S s₂ ∧ s₂.status = .running ∧ Ended s₂ below o ∧ ∃ v L, o = .returned v ∧ ((Q v s₂.heap ∧ s.heap.size ≤ s₂.heap.size) ∧ Fr n0 L) ∧ FrameEnd s o s₂ L kc ks
theorem OGoal.via {n0 : Nat} {S S' : State} (hs : ∀ t, Steps p.tables e below S' t → Steps p.tables e below S t) (g : OGoal p e below s kc ks n0 Q S') : OGoal p e below s kc ks n0 Q S := by
  obtain ⟨s2, o, h1, r⟩ := g
  exact ⟨s2, o, hs _ h1, r⟩
/-- what holds throughout a body -/
def OCtx (p : Program) (s : State) (m : MethodId) (meth : Method) (c : Code) (Z : State) (own nm : String) (bytes : ByteArray) (ml : Nat) (ret : Option FieldType) : Prop :=
  p.tables.exec = Jvm.exec ∧ Z.Warmed39 s.vm ∧ s.vm.findClass own = some m.cls ∧ c.code = bytes ∧ c.maxLocals = ml ∧ meth.sig.returnType = ret ∧ meth.locks = false ∧ meth.name = nm ∧ Ext Z.heap s.heap
/-- from every state with the heap h whose top frame is g the body comes to its end -/
def OG (p : Program) (l : Launch) (e : Env) (R : Room) (s : State) (m : MethodId) (args : Array Value) (below : List Frame) (meth : Method) (c : Code) (Z : State) (own nm : String) (bytes : ByteArray) (ml : Nat) (ret : Option FieldType) (Q : Option Value → Heap → Prop) (kc ks : Nat) (h : Heap) (cells slots : Nat) (g : JFrame) : Prop :=
  OCtx p s m meth c Z own nm bytes ml ret → ∀ T locs, Stand p l e R s m args below meth c T locs cells slots → T.heap = h → Fr Z.heap.size locs → OGoal p e below s kc ks Z.heap.size Q (T.setTop g)
theorem own_ext (X : Stand p l e R s m args below meth c T locs cells slots) (E : Ext Z.heap s.heap) (N : Fr Z.heap.size locs) : Ext Z.heap T.heap := by
  have q := X.same
  refine ⟨Nat.le_trans E.1 q.2.1, fun a cl hc => ?_⟩
  obtain ⟨c', h1, h2, h3, h4⟩ := q.2.2.2.2.2 a cl (E.2 a cl hc)
  have ha : a < Z.heap.size := (Array.getElem?_eq_some_iff.mp hc).1
  have e1 : c'.slots = cl.slots := Array.ext_getElem? fun i => h4 i fun hm => absurd (N _ hm) (Nat.not_le.mpr ha)
  rw [e1] at h2
  have e2 : c' = cl := h2
  rw [← e2]
  exact h1
/-- the contract of a body, at its arguments and heap -/
def OCtr (l : Launch) (Z : State) (y : MethodName) (yb : ByteArray) (yl : Nat) (yr : Option FieldType) (rm : Room) (as' : Array Value) (h0 : Heap) (yQ : Option Value → Heap → Prop) : Prop :=
  ∀ ws : List Jvm.Cond, MetFree l y (head1 (Jvm.Cond.code y yb yl yr :: ws) rm) (fun a U => a = as' ∧ Z.Warmed39 U.vm ∧ U.heap = h0) (fun _ _ _ _ _ => True) (fun _ U o U' => ∃ v L, o = .returned v ∧ ((yQ v U'.heap ∧ h0.size ≤ U'.heap.size) ∧ Fr Z.heap.size L) ∧ FrameEnd U o U' L rm.cells rm.slots)
theorem o_body {y : MethodName} {yb : ByteArray} {yl : Nat} {yr : Option FieldType} {rm : Room} {as' : Array Value} {h0 : Heap} {yQ : Option Value → Heap → Prop} {ls0 : Array Slot} (hpl : plainFor y = true) (hE : Ext Z.heap h0)
    (hef : ∀ m : MethodId, entryFrame m as' yl = mkF m 0 ls0 [])
    (k : ∀ (p : Program) (e : Env) (s : State) (m : MethodId) (below : List Frame) (meth : Method) (c : Code), OG p l e rm s m as' below meth c Z y.cls y.name yb yl yr yQ rm.cells rm.slots h0 0 0 (mkF m 0 ls0 [])) : OCtr l Z y yb yl yr rm as' h0 yQ := by
  intro ws
  refine MetFree.of_bodySF hpl hisR ?_
  intro p e s m args below meth c s₁ Bd hml0 hP hK
  obtain ⟨rfl, hZ, hh⟩ := hP
  have X0 : Stand p l e rm s m args below meth c s₁ [] 0 0 := Stand.of_body Bd
  have e0 : s₁.heap = h0 := by rw [← hh, Bd.state]; rfl
  have g := k p e s m below meth c ⟨Bd.exec, hZ, findClass_of_methodNamed Bd.named, Bd.bytes, hml0, Bd.returns, Bd.notSynchronized, (name_of_methodNamed Bd.named Bd.method).1, by rw [hh]; exact hE⟩ s₁ [] X0 e0 (Fr.nil _)
  rw [hef]
  rw [← hh]
  exact g
/-- a single step that leaves the heap -/
theorem o_pure {n : Nat} {i : Instr} (hd : decode bytes pc = .ok (i, n)) (hs : ∀ (T : State) (locs : List Loc), Stand p l e R s m args below meth c T locs cells slots → p.tables.exec = Jvm.exec → decode c.code pc = .ok (i, n) → ∀ t, Steps p.tables e below (T.setTop (mkF m pc' ls' st')) t → Steps p.tables e below (T.setTop (mkF m pc ls st)) t)
    (k : OG p l e R s m args below meth c Z own nm bytes ml ret Q kc ks h cells slots (mkF m pc' ls' st')) : OG p l e R s m args below meth c Z own nm bytes ml ret Q kc ks h cells slots (mkF m pc ls st) := by
  intro C T locs X eT N
  exact OGoal.via (hs T locs X C.1 (hb C.2.2.2.1 hd)) (k C T locs X eT N)
/-! pure instructions, as one function -/
def oBI (f : Int32 → Int32 → Int32) (st : List Value) (ls : Array Slot) : Option (List Value × Array Slot) :=
  match st with
  | .int y :: .int x :: r => some (.int (f x y) :: r, ls)
  | _ => none
def oBL (f : Int64 → Int64 → Int64) (st : List Value) (ls : Array Slot) : Option (List Value × Array Slot) :=
  match st with
  | .long y :: .long x :: r => some (.long (f x y) :: r, ls)
  | _ => none
def oBLI (f : Int64 → Int32 → Int64) (st : List Value) (ls : Array Slot) : Option (List Value × Array Slot) :=
  match st with
  | .int y :: .long x :: r => some (.long (f x y) :: r, ls)
  | _ => none
def oUI (f : Int32 → Int32) (st : List Value) (ls : Array Slot) : Option (List Value × Array Slot) :=
  match st with
  | .int x :: r => some (.int (f x) :: r, ls)
  | _ => none
def oLdI (k : Nat) (st : List Value) (ls : Array Slot) : Option (List Value × Array Slot) :=
  match ls[k]? with
  | some (.val (.int v)) => some (.int v :: st, ls)
  | _ => none
def oLdL (k : Nat) (st : List Value) (ls : Array Slot) : Option (List Value × Array Slot) :=
  match ls[k]? with
  | some (.val (.long v)) => some (.long v :: st, ls)
  | _ => none
def oLdA (k : Nat) (st : List Value) (ls : Array Slot) : Option (List Value × Array Slot) :=
  match ls[k]? with
  | some (.val (.ref v)) => some (.ref v :: st, ls)
  | some (.val .null) => some (.null :: st, ls)
  | _ => none
def oStI (k : Nat) (st : List Value) (ls : Array Slot) : Option (List Value × Array Slot) :=
  match st with
  | .int v :: r => (storeLocals ls k (.int v)).map fun l' => (r, l')
  | _ => none
def oStL (k : Nat) (st : List Value) (ls : Array Slot) : Option (List Value × Array Slot) :=
  match st with
  | .long v :: r => (storeLocals ls k (.long v)).map fun l' => (r, l')
  | _ => none
def oStA (k : Nat) (st : List Value) (ls : Array Slot) : Option (List Value × Array Slot) :=
  match st with
  | .ref v :: r => (storeLocals ls k (.ref v)).map fun l' => (r, l')
  | .null :: r => (storeLocals ls k .null).map fun l' => (r, l')
  | _ => none
def oInc (k : Nat) (q : Int) (st : List Value) (ls : Array Slot) : Option (List Value × Array Slot) :=
  match ls[k]? with
  | some (.val (.int v)) => (storeLocals ls k (.int (v + Int32.ofInt q))).map fun l' => (st, l')
  | _ => none
def oI2L (st : List Value) (ls : Array Slot) : Option (List Value × Array Slot) :=
  match st with
  | .int x :: r => some (.long x.toInt64 :: r, ls)
  | _ => none
def oL2I (st : List Value) (ls : Array Slot) : Option (List Value × Array Slot) :=
  match st with
  | .long x :: r => some (.int x.toInt32 :: r, ls)
  | _ => none
def oCmp (st : List Value) (ls : Array Slot) : Option (List Value × Array Slot) :=
  match st with
  | .long y :: .long x :: r => some (.int (XT.cmpL x y) :: r, ls)
  | _ => none
def oDup (st : List Value) (ls : Array Slot) : Option (List Value × Array Slot) :=
  match st with
  | .int x :: r => some (.int x :: .int x :: r, ls)
  | .ref x :: r => some (.ref x :: .ref x :: r, ls)
  | _ => none
def oPop (st : List Value) (ls : Array Slot) : Option (List Value × Array Slot) :=
  match st with
  | .int _ :: r => some (r, ls)
  | .ref _ :: r => some (r, ls)
  | .null :: r => some (r, ls)
  | _ => none
def oLen : Instr → Nat
  | .iload _ | .lload _ | .aload _ | .istore _ | .lstore _ | .astore _ | .bipush _ => 2
  | .sipush _ | .iinc _ _ => 3
  | _ => 1
def opS (i : Instr) (st : List Value) (ls : Array Slot) : Option (List Value × Array Slot) :=
  match i with
  | .iconst k => some (.int (Int32.ofInt k) :: st, ls)
  | .bipush k => some (.int (Int8.ofInt k).toInt32 :: st, ls)
  | .sipush k => some (.int (Int16.ofInt k).toInt32 :: st, ls)
  | .lconst k => some (.long (Int64.ofNat k) :: st, ls)
  | .aconst_null => some (.null :: st, ls)
  | .iload k => oLdI k st ls
  | .iload_n k => oLdI k.val st ls
  | .lload k => oLdL k st ls
  | .lload_n k => oLdL k.val st ls
  | .aload k => oLdA k st ls
  | .aload_n k => oLdA k.val st ls
  | .istore k => oStI k st ls
  | .istore_n k => oStI k.val st ls
  | .lstore k => oStL k st ls
  | .lstore_n k => oStL k.val st ls
  | .astore k => oStA k st ls
  | .astore_n k => oStA k.val st ls
  | .iinc k q => oInc k q st ls
  | .iadd => oBI (fun x y => x + y) st ls
  | .isub => oBI (fun x y => x - y) st ls
  | .imul => oBI (fun x y => x * y) st ls
  | .iand => oBI (fun x y => x &&& y) st ls
  | .ior => oBI (fun x y => x ||| y) st ls
  | .ixor => oBI (fun x y => x ^^^ y) st ls
  | .ishl => oBI (fun x y => x <<< (y &&& 31)) st ls
  | .ishr => oBI (fun x y => x >>> (y &&& 31)) st ls
  | .iushr => oBI (fun x y => XT.ushr x y) st ls
  | .ladd => oBL (fun x y => x + y) st ls
  | .lsub => oBL (fun x y => x - y) st ls
  | .lmul => oBL (fun x y => x * y) st ls
  | .land => oBL (fun x y => x &&& y) st ls
  | .lor => oBL (fun x y => x ||| y) st ls
  | .lxor => oBL (fun x y => x ^^^ y) st ls
  | .lshl => oBLI (fun x y => x <<< (y.toInt64 &&& 63)) st ls
  | .lshr => oBLI (fun x y => x >>> (y.toInt64 &&& 63)) st ls
  | .lushr => oBLI (fun x y => XT.ushrL x y) st ls
  | .i2b => oUI (fun x => x.toInt8.toInt32) st ls
  | .i2c => oUI (fun x => x.toUInt32.toUInt16.toUInt32.toInt32) st ls
  | .i2s => oUI (fun x => x.toInt16.toInt32) st ls
  | .ineg => oUI (fun x => -x) st ls
  | .i2l => oI2L st ls
  | .l2i => oL2I st ls
  | .lcmp => oCmp st ls
  | .dup => oDup st ls
  | .pop => oPop st ls
  | _ => none
/-- the instructions from pc on, one behind the other; what stands behind them -/
def oBlk (code : ByteArray) : Nat → List Instr → Option Nat
  | pc, [] => some pc
  | pc, i :: is => if decode code pc = .ok (i, oLen i) then oBlk code (pc + oLen i) is else none
def oRun : List Instr → List Value → Array Slot → Option (List Value × Array Slot)
  | [], st, ls => some (st, ls)
  | i :: is, st, ls => match opS i st ls with
    | some (st', ls') => oRun is st' ls'
    | none => none
theorem oBI_inv {f : Int32 → Int32 → Int32} {r : List Value × Array Slot} (q : oBI f st ls = some r) : ∃ x y t, st = .int y :: .int x :: t ∧ r = (.int (f x y) :: t, ls) := by
  unfold oBI at q
  split at q
  · exact ⟨_, _, _, rfl, (Option.some.inj q).symm⟩
  · cases q
theorem oBL_inv {f : Int64 → Int64 → Int64} {r : List Value × Array Slot} (q : oBL f st ls = some r) : ∃ x y t, st = .long y :: .long x :: t ∧ r = (.long (f x y) :: t, ls) := by
  unfold oBL at q
  split at q
  · exact ⟨_, _, _, rfl, (Option.some.inj q).symm⟩
  · cases q
theorem oBLI_inv {f : Int64 → Int32 → Int64} {r : List Value × Array Slot} (q : oBLI f st ls = some r) : ∃ x y t, st = .int y :: .long x :: t ∧ r = (.long (f x y) :: t, ls) := by
  unfold oBLI at q
  split at q
  · exact ⟨_, _, _, rfl, (Option.some.inj q).symm⟩
  · cases q
theorem oUI_inv {f : Int32 → Int32} {r : List Value × Array Slot} (q : oUI f st ls = some r) : ∃ x t, st = .int x :: t ∧ r = (.int (f x) :: t, ls) := by
  unfold oUI at q
  split at q
  · exact ⟨_, _, rfl, (Option.some.inj q).symm⟩
  · cases q
theorem oLdI_inv {k : Nat} {r : List Value × Array Slot} (q : oLdI k st ls = some r) : ∃ v, ls[k]? = some (.val (.int v)) ∧ r = (.int v :: st, ls) := by
  unfold oLdI at q
  split at q
  · next v hv => exact ⟨v, hv, (Option.some.inj q).symm⟩
  · cases q
theorem oLdL_inv {k : Nat} {r : List Value × Array Slot} (q : oLdL k st ls = some r) : ∃ v, ls[k]? = some (.val (.long v)) ∧ r = (.long v :: st, ls) := by
  unfold oLdL at q
  split at q
  · next v hv => exact ⟨v, hv, (Option.some.inj q).symm⟩
  · cases q
theorem oLdA_inv {k : Nat} {r : List Value × Array Slot} (q : oLdA k st ls = some r) : ∃ v, ls[k]? = some (.val v) ∧ v.isRef = true ∧ r = (v :: st, ls) := by
  unfold oLdA at q
  split at q
  · next v hv => exact ⟨.ref v, hv, rfl, (Option.some.inj q).symm⟩
  · next hv => exact ⟨.null, hv, rfl, (Option.some.inj q).symm⟩
  · cases q
theorem own_map {o : Option (Array Slot)} {t : List Value} {r : List Value × Array Slot} (q : o.map (fun l' => (t, l')) = some r) : ∃ l', o = some l' ∧ r = (t, l') := by
  cases o with
  | none => cases q
  | some l' => exact ⟨l', rfl, (Option.some.inj q).symm⟩
theorem oStI_inv {k : Nat} {r : List Value × Array Slot} (q : oStI k st ls = some r) : ∃ v t l', st = .int v :: t ∧ storeLocals ls k (.int v) = some l' ∧ r = (t, l') := by
  unfold oStI at q
  split at q
  · obtain ⟨l', h1, h2⟩ := own_map q; exact ⟨_, _, l', rfl, h1, h2⟩
  · cases q
theorem oStL_inv {k : Nat} {r : List Value × Array Slot} (q : oStL k st ls = some r) : ∃ v t l', st = .long v :: t ∧ storeLocals ls k (.long v) = some l' ∧ r = (t, l') := by
  unfold oStL at q
  split at q
  · obtain ⟨l', h1, h2⟩ := own_map q; exact ⟨_, _, l', rfl, h1, h2⟩
  · cases q
theorem oStA_inv {k : Nat} {r : List Value × Array Slot} (q : oStA k st ls = some r) : ∃ v t l', st = v :: t ∧ v.isRef = true ∧ storeLocals ls k v = some l' ∧ r = (t, l') := by
  unfold oStA at q
  split at q
  · obtain ⟨l', h1, h2⟩ := own_map q; exact ⟨_, _, l', rfl, rfl, h1, h2⟩
  · obtain ⟨l', h1, h2⟩ := own_map q; exact ⟨_, _, l', rfl, rfl, h1, h2⟩
  · cases q
theorem oInc_inv {k : Nat} {z : Int} {r : List Value × Array Slot} (q : oInc k z st ls = some r) : ∃ v l', ls[k]? = some (.val (.int v)) ∧ storeLocals ls k (.int (v + Int32.ofInt z)) = some l' ∧ r = (st, l') := by
  unfold oInc at q
  split at q
  · next v hv => obtain ⟨l', h1, h2⟩ := own_map q; exact ⟨v, l', hv, h1, h2⟩
  · cases q
theorem oI2L_inv {r : List Value × Array Slot} (q : oI2L st ls = some r) : ∃ x t, st = .int x :: t ∧ r = (.long x.toInt64 :: t, ls) := by
  unfold oI2L at q
  split at q
  · exact ⟨_, _, rfl, (Option.some.inj q).symm⟩
  · cases q
theorem oL2I_inv {r : List Value × Array Slot} (q : oL2I st ls = some r) : ∃ x t, st = .long x :: t ∧ r = (.int x.toInt32 :: t, ls) := by
  unfold oL2I at q
  split at q
  · exact ⟨_, _, rfl, (Option.some.inj q).symm⟩
  · cases q
theorem oCmp_inv {r : List Value × Array Slot} (q : oCmp st ls = some r) : ∃ x y t, st = .long y :: .long x :: t ∧ r = (.int (XT.cmpL x y) :: t, ls) := by
  unfold oCmp at q
  split at q
  · exact ⟨_, _, _, rfl, (Option.some.inj q).symm⟩
  · cases q
theorem oDup_inv {r : List Value × Array Slot} (q : oDup st ls = some r) : ∃ x t, st = x :: t ∧ x.category = 1 ∧ r = (x :: x :: t, ls) := by
  unfold oDup at q
  split at q
  · exact ⟨_, _, rfl, rfl, (Option.some.inj q).symm⟩
  · exact ⟨_, _, rfl, rfl, (Option.some.inj q).symm⟩
  · cases q
theorem oPop_inv {r : List Value × Array Slot} (q : oPop st ls = some r) : ∃ x t, st = x :: t ∧ x.category = 1 ∧ r = (t, ls) := by
  unfold oPop at q
  split at q
  · exact ⟨_, _, rfl, rfl, (Option.some.inj q).symm⟩
  · exact ⟨_, _, rfl, rfl, (Option.some.inj q).symm⟩
  · exact ⟨_, _, rfl, rfl, (Option.some.inj q).symm⟩
  · cases q
theorem o_op {i : Instr} (hd : decode bytes pc = .ok (i, oLen i)) (q : opS i st ls = some (st', ls'))
    (k : OG p l e R s m args below meth c Z own nm bytes ml ret Q kc ks h cells slots (mkF m (pc + oLen i) ls' st')) : OG p l e R s m args below meth c Z own nm bytes ml ret Q kc ks h cells slots (mkF m pc ls st) := by
  refine o_pure hd (fun T locs X hx hd t kk => ?_) k
  cases i with
  | iconst z => cases q; exact XS.iconst X.here hx rfl hd kk
  | bipush z => cases q; exact XS.bipush X.here hx rfl hd kk
  | sipush z => cases q; exact XS.sipush X.here hx rfl hd kk
  | lconst z => cases q; exact XT.lconst X.here hx rfl hd kk
  | aconst_null => cases q; exact XS.aconstNull X.here hx rfl hd kk
  | iload z => obtain ⟨v, h1, h3⟩ := oLdI_inv q; cases h3; exact XS.iload X.here hx rfl hd h1 kk
  | iload_n z => obtain ⟨v, h1, h3⟩ := oLdI_inv q; cases h3; exact XS.iloadN X.here hx rfl hd h1 kk
  | lload z => obtain ⟨v, h1, h3⟩ := oLdL_inv q; cases h3; exact XT.lload X.here hx rfl hd h1 kk
  | lload_n z => obtain ⟨v, h1, h3⟩ := oLdL_inv q; cases h3; exact XT.lloadN X.here hx rfl hd h1 kk
  | aload z => obtain ⟨v, h1, h2, h3⟩ := oLdA_inv q; cases h3; exact XS.aload X.here hx rfl hd h1 h2 kk
  | aload_n z => obtain ⟨v, h1, h2, h3⟩ := oLdA_inv q; cases h3; exact XS.aloadN X.here hx rfl hd h1 h2 kk
  | istore z => obtain ⟨v, r, l', rfl, h2, h3⟩ := oStI_inv q; cases h3; exact XS.istore X.here hx rfl hd rfl h2 kk
  | istore_n z => obtain ⟨v, r, l', rfl, h2, h3⟩ := oStI_inv q; cases h3; exact XS.istoreN X.here hx rfl hd rfl h2 kk
  | lstore z => obtain ⟨v, r, l', rfl, h2, h3⟩ := oStL_inv q; cases h3; exact XT.lstore X.here hx rfl hd rfl h2 kk
  | lstore_n z => obtain ⟨v, r, l', rfl, h2, h3⟩ := oStL_inv q; cases h3; exact XT.lstoreN X.here hx rfl hd rfl h2 kk
  | astore z => obtain ⟨v, r, l', rfl, h1, h2, h3⟩ := oStA_inv q; cases h3; exact XS.astore X.here hx rfl hd rfl h1 h2 kk
  | astore_n z => obtain ⟨v, r, l', rfl, h1, h2, h3⟩ := oStA_inv q; cases h3; exact XS.astoreN X.here hx rfl hd rfl h1 h2 kk
  | iinc z y => obtain ⟨v, l', h1, h2, h3⟩ := oInc_inv q; cases h3; exact XS.iinc X.here hx rfl hd h1 h2 kk
  | iadd => obtain ⟨x, y, r, rfl, h3⟩ := oBI_inv q; cases h3; exact XS.iadd X.here hx rfl hd rfl kk
  | isub => obtain ⟨x, y, r, rfl, h3⟩ := oBI_inv q; cases h3; exact XS.isub X.here hx rfl hd rfl kk
  | imul => obtain ⟨x, y, r, rfl, h3⟩ := oBI_inv q; cases h3; exact XS.imul X.here hx rfl hd rfl kk
  | iand => obtain ⟨x, y, r, rfl, h3⟩ := oBI_inv q; cases h3; exact XS.iand X.here hx rfl hd rfl kk
  | ior => obtain ⟨x, y, r, rfl, h3⟩ := oBI_inv q; cases h3; exact XT.ior X.here hx rfl hd rfl kk
  | ixor => obtain ⟨x, y, r, rfl, h3⟩ := oBI_inv q; cases h3; exact XT.ixor X.here hx rfl hd rfl kk
  | ishl => obtain ⟨x, y, r, rfl, h3⟩ := oBI_inv q; cases h3; exact XT.ishl X.here hx rfl hd rfl kk
  | ishr => obtain ⟨x, y, r, rfl, h3⟩ := oBI_inv q; cases h3; exact XT.ishr X.here hx rfl hd rfl kk
  | iushr => obtain ⟨x, y, r, rfl, h3⟩ := oBI_inv q; cases h3; exact XT.iushr X.here hx rfl hd rfl kk
  | ladd => obtain ⟨x, y, r, rfl, h3⟩ := oBL_inv q; cases h3; exact XT.ladd X.here hx rfl hd rfl kk
  | lsub => obtain ⟨x, y, r, rfl, h3⟩ := oBL_inv q; cases h3; exact XT.lsub X.here hx rfl hd rfl kk
  | lmul => obtain ⟨x, y, r, rfl, h3⟩ := oBL_inv q; cases h3; exact XT.lmul X.here hx rfl hd rfl kk
  | land => obtain ⟨x, y, r, rfl, h3⟩ := oBL_inv q; cases h3; exact XT.land X.here hx rfl hd rfl kk
  | lor => obtain ⟨x, y, r, rfl, h3⟩ := oBL_inv q; cases h3; exact XT.lor X.here hx rfl hd rfl kk
  | lxor => obtain ⟨x, y, r, rfl, h3⟩ := oBL_inv q; cases h3; exact XT.lxor X.here hx rfl hd rfl kk
  | lshl => obtain ⟨x, y, r, rfl, h3⟩ := oBLI_inv q; cases h3; exact XT.lshl X.here hx rfl hd rfl kk
  | lshr => obtain ⟨x, y, r, rfl, h3⟩ := oBLI_inv q; cases h3; exact XT.lshr X.here hx rfl hd rfl kk
  | lushr => obtain ⟨x, y, r, rfl, h3⟩ := oBLI_inv q; cases h3; exact XT.lushr X.here hx rfl hd rfl kk
  | i2b => obtain ⟨x, r, rfl, h3⟩ := oUI_inv q; cases h3; exact XT.i2b X.here hx rfl hd rfl kk
  | i2c => obtain ⟨x, r, rfl, h3⟩ := oUI_inv q; cases h3; exact XT.i2c X.here hx rfl hd rfl kk
  | i2s => obtain ⟨x, r, rfl, h3⟩ := oUI_inv q; cases h3; exact XT.i2s X.here hx rfl hd rfl kk
  | ineg => obtain ⟨x, r, rfl, h3⟩ := oUI_inv q; cases h3; exact XS.ineg X.here hx rfl hd rfl kk
  | i2l => obtain ⟨x, r, rfl, h3⟩ := oI2L_inv q; cases h3; exact XT.i2l X.here hx rfl hd rfl kk
  | l2i => obtain ⟨x, r, rfl, h3⟩ := oL2I_inv q; cases h3; exact XT.l2i X.here hx rfl hd rfl kk
  | lcmp => obtain ⟨x, y, r, rfl, h3⟩ := oCmp_inv q; cases h3; exact XT.lcmp X.here hx rfl hd rfl kk
  | dup => obtain ⟨x, r, rfl, hc, h3⟩ := oDup_inv q; cases h3; exact XS.dup X.here hx rfl hd rfl hc kk
  | pop => obtain ⟨x, r, rfl, hc, h3⟩ := oPop_inv q; cases h3; exact XT.pop X.here hx rfl hd rfl hc kk
  | _ => cases q
theorem o_blk : ∀ {is : List Instr} {pc : Nat} {st : List Value} {ls : Array Slot}, oBlk bytes pc is = some pc' → oRun is st ls = some (st', ls') →
    OG p l e R s m args below meth c Z own nm bytes ml ret Q kc ks h cells slots (mkF m pc' ls' st') → OG p l e R s m args below meth c Z own nm bytes ml ret Q kc ks h cells slots (mkF m pc ls st)
  | [], pc, st, ls, hb, hr, k => by
    cases hb; cases hr; exact k
  | i :: is, pc, st, ls, hb, hr, k => by
    unfold oBlk at hb
    split at hb
    · next hd =>
      unfold oRun at hr
      split at hr
      · next st1 ls1 hq => exact o_op hd hq (o_blk hb hr k)
      · cases hr
    · cases hb
/-! branches -/
def oC : ClassFile.Cond → Int32 → Int32 → Prop
  | .eq, x, y => x = y
  | .ne, x, y => ¬ x = y
  | .lt, x, y => x < y
  | .ge, x, y => ¬ x < y
  | .gt, x, y => y < x
  | .le, x, y => ¬ y < x
def oCn : ClassFile.Cond → Int32 → Int32 → Prop
  | .eq, x, y => ¬ x = y
  | .ne, x, y => x = y
  | .lt, x, y => ¬ x < y
  | .ge, x, y => x < y
  | .gt, x, y => ¬ y < x
  | .le, x, y => y < x
theorem oC_yes {cd : ClassFile.Cond} {x y : Int32} (q : oC cd x y) : if_icmp.holds cd x y = true := by
  cases cd
  · exact (teq q).1
  · exact (feq q).2
  · exact (tlt q).1
  · exact (flt q).2.1
  · exact (tlt q).2.2.1
  · exact (flt q).2.2.2
theorem oC_no {cd : ClassFile.Cond} {x y : Int32} (q : oCn cd x y) : if_icmp.holds cd x y = false := by
  cases cd
  · exact (feq q).1
  · exact (teq q).2
  · exact (flt q).1
  · exact (tlt q).2.1
  · exact (flt q).2.2.1
  · exact (tlt q).2.2.2
theorem oC_or (cd : ClassFile.Cond) (x y : Int32) : oC cd x y ∨ oCn cd x y := by
  cases cd
  · exact Classical.em _
  · exact (Classical.em (x = y)).symm
  · exact Classical.em _
  · exact (Classical.em (x < y)).symm
  · exact Classical.em _
  · exact (Classical.em (y < x)).symm
theorem o_ifY {cd : ClassFile.Cond} {o : Int} {x : Int32} (hd : decode bytes pc = .ok (.ifCond cd o, 3)) (ho : 0 ≤ (pc : Int) + o) (hp : ((pc : Int) + o).toNat = pc') (hc : oC cd x 0)
    (k : OG p l e R s m args below meth c Z own nm bytes ml ret Q kc ks h cells slots (mkF m pc' ls rest)) : OG p l e R s m args below meth c Z own nm bytes ml ret Q kc ks h cells slots (mkF m pc ls (.int x :: rest)) :=
  o_pure hd (fun T locs X hx hd t kk => XS.ifYes X.here hx rfl (pc0 := pc) rfl hd rfl (by rw [if0]; exact oC_yes hc) ho hp kk) k
theorem o_ifN {cd : ClassFile.Cond} {o : Int} {x : Int32} (hd : decode bytes pc = .ok (.ifCond cd o, 3)) (hp : pc + 3 = pc') (hc : oCn cd x 0)
    (k : OG p l e R s m args below meth c Z own nm bytes ml ret Q kc ks h cells slots (mkF m pc' ls rest)) : OG p l e R s m args below meth c Z own nm bytes ml ret Q kc ks h cells slots (mkF m pc ls (.int x :: rest)) :=
  o_pure hd (fun T locs X hx hd t kk => XS.ifNo X.here hx rfl hd rfl (by rw [if0]; exact oC_no hc) (by subst hp; exact kk)) k
theorem o_if {cd : ClassFile.Cond} {o : Int} {x : Int32} {pc'' : Nat} (hd : decode bytes pc = .ok (.ifCond cd o, 3)) (ho : 0 ≤ (pc : Int) + o) (hp : ((pc : Int) + o).toNat = pc') (hp' : pc + 3 = pc'')
    (ky : oC cd x 0 → OG p l e R s m args below meth c Z own nm bytes ml ret Q kc ks h cells slots (mkF m pc' ls rest)) (kn : oCn cd x 0 → OG p l e R s m args below meth c Z own nm bytes ml ret Q kc ks h cells slots (mkF m pc'' ls rest)) : OG p l e R s m args below meth c Z own nm bytes ml ret Q kc ks h cells slots (mkF m pc ls (.int x :: rest)) :=
  (oC_or cd x 0).elim (fun q => o_ifY hd ho hp q (ky q)) (fun q => o_ifN hd hp' q (kn q))
theorem o_icY {cd : ClassFile.Cond} {o : Int} {x y : Int32} (hd : decode bytes pc = .ok (.if_icmp cd o, 3)) (ho : 0 ≤ (pc : Int) + o) (hp : ((pc : Int) + o).toNat = pc') (hc : oC cd x y)
    (k : OG p l e R s m args below meth c Z own nm bytes ml ret Q kc ks h cells slots (mkF m pc' ls rest)) : OG p l e R s m args below meth c Z own nm bytes ml ret Q kc ks h cells slots (mkF m pc ls (.int y :: .int x :: rest)) :=
  o_pure hd (fun T locs X hx hd t kk => XS.icmpYes X.here hx rfl (pc0 := pc) rfl hd rfl (oC_yes hc) ho hp kk) k
theorem o_icN {cd : ClassFile.Cond} {o : Int} {x y : Int32} (hd : decode bytes pc = .ok (.if_icmp cd o, 3)) (hp : pc + 3 = pc') (hc : oCn cd x y)
    (k : OG p l e R s m args below meth c Z own nm bytes ml ret Q kc ks h cells slots (mkF m pc' ls rest)) : OG p l e R s m args below meth c Z own nm bytes ml ret Q kc ks h cells slots (mkF m pc ls (.int y :: .int x :: rest)) :=
  o_pure hd (fun T locs X hx hd t kk => XS.icmpNo X.here hx rfl hd rfl (oC_no hc) (by subst hp; exact kk)) k
theorem o_ic {cd : ClassFile.Cond} {o : Int} {x y : Int32} {pc'' : Nat} (hd : decode bytes pc = .ok (.if_icmp cd o, 3)) (ho : 0 ≤ (pc : Int) + o) (hp : ((pc : Int) + o).toNat = pc') (hp' : pc + 3 = pc'')
    (ky : oC cd x y → OG p l e R s m args below meth c Z own nm bytes ml ret Q kc ks h cells slots (mkF m pc' ls rest)) (kn : oCn cd x y → OG p l e R s m args below meth c Z own nm bytes ml ret Q kc ks h cells slots (mkF m pc'' ls rest)) : OG p l e R s m args below meth c Z own nm bytes ml ret Q kc ks h cells slots (mkF m pc ls (.int y :: .int x :: rest)) :=
  (oC_or cd x y).elim (fun q => o_icY hd ho hp q (ky q)) (fun q => o_icN hd hp' q (kn q))
def oA : ClassFile.ACond → Value → Value → Prop
  | .eq, x, y => x = y
  | .ne, x, y => ¬ x = y
def oAn : ClassFile.ACond → Value → Value → Prop
  | .eq, x, y => ¬ x = y
  | .ne, x, y => x = y
theorem o_acY {cd : ClassFile.ACond} {o : Int} {x y : Value} (hd : decode bytes pc = .ok (.if_acmp cd o, 3)) (hx' : x.isRef = true) (hy' : y.isRef = true) (ho : 0 ≤ (pc : Int) + o) (hp : ((pc : Int) + o).toNat = pc') (hc : oA cd x y)
    (k : OG p l e R s m args below meth c Z own nm bytes ml ret Q kc ks h cells slots (mkF m pc' ls rest)) : OG p l e R s m args below meth c Z own nm bytes ml ret Q kc ks h cells slots (mkF m pc ls (y :: x :: rest)) :=
  o_pure hd (fun T locs X hx hd t kk => XT.acmpYes X.here hx rfl (pc0 := pc) rfl hd rfl hx' hy' (by cases cd <;> exact decide_eq_true hc) ho hp kk) k
theorem o_acN {cd : ClassFile.ACond} {o : Int} {x y : Value} (hd : decode bytes pc = .ok (.if_acmp cd o, 3)) (hx' : x.isRef = true) (hy' : y.isRef = true) (hp : pc + 3 = pc') (hc : oAn cd x y)
    (k : OG p l e R s m args below meth c Z own nm bytes ml ret Q kc ks h cells slots (mkF m pc' ls rest)) : OG p l e R s m args below meth c Z own nm bytes ml ret Q kc ks h cells slots (mkF m pc ls (y :: x :: rest)) :=
  o_pure hd (fun T locs X hx hd t kk => XT.acmpNo X.here hx rfl hd rfl hx' hy' (by cases cd <;> first | exact decide_eq_false hc | exact decide_eq_false (fun q => q hc)) (by subst hp; exact kk)) k
theorem o_goto {o : Int} (hd : decode bytes pc = .ok (.goto o, 3)) (ho : 0 ≤ (pc : Int) + o) (hp : ((pc : Int) + o).toNat = pc')
    (k : OG p l e R s m args below meth c Z own nm bytes ml ret Q kc ks h cells slots (mkF m pc' ls st)) : OG p l e R s m args below meth c Z own nm bytes ml ret Q kc ks h cells slots (mkF m pc ls st) :=
  o_pure hd (fun T locs X hx hd t kk => XS.goto X.here hx rfl (pc0 := pc) rfl hd ho hp kk) k
theorem o_irem {x y : Int32} (hd : decode bytes pc = .ok (.irem, 1)) (hy : y ≠ 0) (hp : pc + 1 = pc')
    (k : OG p l e R s m args below meth c Z own nm bytes ml ret Q kc ks h cells slots (mkF m pc' ls (.int (x % y) :: rest))) : OG p l e R s m args below meth c Z own nm bytes ml ret Q kc ks h cells slots (mkF m pc ls (.int y :: .int x :: rest)) :=
  o_pure hd (fun T locs X hx hd t kk => iremM X hx rfl hd rfl hy (by subst hp; exact kk)) k
theorem o_idiv {x y : Int32} (hd : decode bytes pc = .ok (.idiv, 1)) (hy : y ≠ 0) (hp : pc + 1 = pc')
    (k : OG p l e R s m args below meth c Z own nm bytes ml ret Q kc ks h cells slots (mkF m pc' ls (.int (x / y) :: rest))) : OG p l e R s m args below meth c Z own nm bytes ml ret Q kc ks h cells slots (mkF m pc ls (.int y :: .int x :: rest)) :=
  o_pure hd (fun T locs X hx hd t kk => XS.idiv X.here hx rfl hd rfl hy (by subst hp; exact kk)) k
/-! constants, statics -/
theorem o_ldc {index : Nat} {v : Int32} (w : (Cond.constant own index v).before a0 Z = true) (hd : decode bytes pc = .ok (.ldc index, 2)) (hp : pc + 2 = pc')
    (k : OG p l e R s m args below meth c Z own nm bytes ml ret Q kc ks h cells slots (mkF m pc' ls (.int v :: st))) : OG p l e R s m args below meth c Z own nm bytes ml ret Q kc ks h cells slots (mkF m pc ls st) := by
  intro C T locs X eT N
  refine OGoal.via (fun t kk => X.ldcInt C.1 C.2.2.1 (mvT C.2.1 w) (g := mkF m pc ls st) rfl (hb C.2.2.2.1 hd) t ?_) (k C T locs X eT N)
  subst hp
  exact kk
theorem o_ldc2 {index : Nat} {v : Int64} (w : (Cond.constantLong own index v).before a0 Z = true) (hd : decode bytes pc = .ok (.ldc2_w index, 3)) (hp : pc + 3 = pc')
    (k : OG p l e R s m args below meth c Z own nm bytes ml ret Q kc ks h cells slots (mkF m pc' ls (.long v :: st))) : OG p l e R s m args below meth c Z own nm bytes ml ret Q kc ks h cells slots (mkF m pc ls st) := by
  intro C T locs X eT N
  refine OGoal.via (fun t kk => X.ldc2Long C.1 C.2.2.1 (mvT C.2.1 w) (g := mkF m pc ls st) rfl (hb C.2.2.2.1 hd) t ?_) (k C T locs X eT N)
  subst hp
  exact kk
theorem o_getS {O n d : String} {index : Nat} {v : Value} (w : (Cond.fieldLink own index O n d).before a0 Z = true) (F : Sta Z Z.heap O n d v) (hd : decode bytes pc = .ok (.getstatic index, 3)) (hp : pc + 3 = pc')
    (k : OG p l e R s m args below meth c Z own nm bytes ml ret Q kc ks h cells slots (mkF m pc' ls (v :: st))) : OG p l e R s m args below meth c Z own nm bytes ml ret Q kc ks h cells slots (mkF m pc ls st) := by
  intro C T locs X eT N
  obtain ⟨T', X', e', stp⟩ := getS (host := "") X C.1 C.2.1 C.2.2.1 w Via.refl eT (F.ext (eT ▸ own_ext X C.2.2.2.2.2.2.2.2 N)) (g := mkF m pc ls st) rfl (hb C.2.2.2.1 hd)
  subst hp
  exact OGoal.via stp (k C T' locs X' e' N)
/-! returns -/
theorem own_end {v : Option Value} {S : State} (X : Stand p l e R s m args below meth c T locs cells slots) (hlk : meth.locks = false) (hv : meth.sig.returnType = none → v = none) (hc : cells ≤ kc) (hs : slots ≤ ks) (N : Fr Z.heap.size locs) (eT : T.heap = h) (hq : Q v h)
    (stp : ∀ fs, (∀ (f : JFrame) (acts : List Action), f.method = m → f.locked = none → f.entered = [] → (doReturn e (T.setTop f) acts v).1 = T.setFrames fs) → Steps p.tables e below S (T.setFrames fs)) : OGoal p e below s kc ks Z.heap.size Q S := by
  obtain ⟨fs, hr, hrun, hended, hW, hsame⟩ := X.leave (v := v) hv hlk
  exact ⟨_, _, stp fs hr, hrun, hended, v, locs, rfl, ⟨⟨by rw [show (T.setFrames fs).heap = h from eT]; exact hq, X.same.2.1⟩, N⟩, ⟨v, rfl⟩, hW, hsame.mono hc hs⟩
theorem o_retI {z : Int32} (hd : decode bytes pc = .ok (.ireturn, 1)) (hc : cells ≤ kc) (hs : slots ≤ ks) (hr : ret = some .int) (hq : Q (some (.int z)) h) : OG p l e R s m args below meth c Z own nm bytes ml ret Q kc ks h cells slots (mkF m pc ls (.int z :: rest)) := by
  intro C T locs X eT N
  have hR : meth.sig.returnType = some .int := C.2.2.2.2.2.1.trans hr
  exact own_end X C.2.2.2.2.2.2.1 (fun q => by rw [hR] at q; cases q) hc hs N eT hq (fun fs hl => retOut X C.1 hR rfl (Or.inl ⟨rfl, Or.inl rfl, z, rfl⟩) (hb C.2.2.2.1 hd) hl)
theorem o_retZ {z w : Int32} (hd : decode bytes pc = .ok (.ireturn, 1)) (hc : cells ≤ kc) (hs : slots ≤ ks) (hr : ret = some .boolean) (hz : z = 0 ∨ z = 1) (hq : Q (some (.int z)) h) : OG p l e R s m args below meth c Z own nm bytes ml ret Q kc ks h cells slots (mkF m pc ls (.int z :: rest)) := by
  intro C T locs X eT N
  have hR : meth.sig.returnType = some .boolean := C.2.2.2.2.2.1.trans hr
  have hn : nar .boolean z = z := by rcases hz with rfl | rfl <;> rfl
  exact own_end X C.2.2.2.2.2.2.1 (fun q => by rw [hR] at q; cases q) hc hs N eT hq (fun fs hl => retN X C.1 hR (Or.inl rfl) (hb C.2.2.2.1 hd) (by rw [hn]; exact hl))
theorem o_retL {z : Int64} (hd : decode bytes pc = .ok (.lreturn, 1)) (hc : cells ≤ kc) (hs : slots ≤ ks) (hr : ret = some .long) (hq : Q (some (.long z)) h) : OG p l e R s m args below meth c Z own nm bytes ml ret Q kc ks h cells slots (mkF m pc ls (.long z :: rest)) := by
  intro C T locs X eT N
  have hR : meth.sig.returnType = some .long := C.2.2.2.2.2.1.trans hr
  exact own_end X C.2.2.2.2.2.2.1 (fun q => by rw [hR] at q; cases q) hc hs N eT hq (fun fs hl => retOut X C.1 hR rfl (Or.inr (Or.inl ⟨rfl, rfl, z, rfl⟩)) (hb C.2.2.2.1 hd) hl)
theorem o_retA {w : Value} {t : FieldType} (hd : decode bytes pc = .ok (.areturn, 1)) (hc : cells ≤ kc) (hs : slots ≤ ks) (hr : ret = some t) (ht : t.isReference = true) (hw : w.isRef = true) (hq : Q (some w) h) : OG p l e R s m args below meth c Z own nm bytes ml ret Q kc ks h cells slots (mkF m pc ls (w :: rest)) := by
  intro C T locs X eT N
  have hR : meth.sig.returnType = some t := C.2.2.2.2.2.1.trans hr
  have hn : narrow t w = w := by cases t <;> first | rfl | (cases ht; done)
  exact own_end X C.2.2.2.2.2.2.1 (fun q => by rw [hR] at q; cases q) hc hs N eT hq (fun fs hl => retOut X C.1 hR hn (Or.inr (Or.inr (Or.inr (Or.inr ⟨rfl, ht, hw⟩)))) (hb C.2.2.2.1 hd) hl)
theorem o_retV (hd : decode bytes pc = .ok (.return_, 1)) (hc : cells ≤ kc) (hs : slots ≤ ks) (hr : ret = none) (hq : Q none h) : OG p l e R s m args below meth c Z own nm bytes ml ret Q kc ks h cells slots (mkF m pc ls []) := by
  intro C T locs X eT N
  exact own_end X C.2.2.2.2.2.2.1 (fun _ => rfl) hc hs N eT hq (fun fs hl => X.returnOut C.1 (C.2.2.2.2.2.1.trans hr) (hb C.2.2.2.1 hd) hl)
/-! calls -/
theorem o_callS {index yl W : Nat} {y : MethodName} {yb : ByteArray} {yr : Option FieldType} {rm : Room} {yQ : Option Value → Heap → Prop} {argsL : List Value} {ps : List FieldType} {yr' : Option FieldType}
    (w1 : (Cond.methodLink own index y).before a0 Z = true) (w2 : (Cond.static y).before a0 Z = true) (w3 : (Cond.initialized y.cls).before a0 Z = true) (w4 : (Cond.code y yb yl yr).before a0 Z = true)
    (hy : y.cls ≠ "java/lang/invoke/MethodHandle" ∧ y.cls ≠ "java/lang/invoke/VarHandle") (K : Ext Z.heap h → OCtr l Z y yb yl yr rm argsL.toArray h yQ) (hd : decode bytes pc = .ok (.invokestatic index, 3))
    (hpd : parseMethodDescriptor y.desc = some ⟨ps, yr'⟩) (hpl : argsL.length = ps.length) (hsz : ls.size = ml) (hst : st = argsL.reverse ++ rest) (hW : (rest.map fun v => v.category).sum ≤ W)
    (hf : rm.frames + 1 ≤ R.frames) (hl : W + (yl + 11) + rm.locals ≤ R.locals) (hcc : cells + rm.cells ≤ R.cells) (hss : slots + rm.slots ≤ R.slots) (hp : pc + 3 = pc')
    (k : ∀ v h', yQ v h' → h.size ≤ h'.size → OG p l e R s m args below meth c Z own nm bytes ml ret Q kc ks h' (cells + rm.cells) (slots + rm.slots) (mkF m pc' ls (v.toList ++ rest))) : OG p l e R s m args below meth c Z own nm bytes ml ret Q kc ks h cells slots (mkF m pc ls st) := by
  intro C T locs X eT N
  have hE : Ext Z.heap h := eT ▸ own_ext X C.2.2.2.2.2.2.2.2 N
  obtain ⟨v, vm₁, ⟨T', L', k', n'⟩, -, X', ⟨L, ⟨hQ, hN⟩, e1, e2, e3⟩, stp⟩ := Jvm.LawKit.callS X C.1 (y := y) C.2.2.1 (mvT C.2.1 w1) (mvT C.2.1 w2) (mvT C.2.1 w3) (mvT C.2.1 w4) hy
    (backOf (W := W) (Q := fun v h2 L => (yQ v h2 ∧ h.size ≤ h2.size) ∧ Fr Z.heap.size L) (K hE []) C.2.1 w4 w3 hf hl) (g := mkF m pc ls st) rfl (hsz.trans C.2.2.2.2.1.symm) (argsL := argsL) (rest := rest) (lenOf hpd hpl) hst (by show 2 * 0 + _ ≤ _; rw [Nat.mul_zero, Nat.zero_add]; exact hW) (hb C.2.2.2.1 hd) (fun _ _ => ⟨rfl, eT, hcc, hss⟩)
  dsimp only [Pt.U, Pt.locs, Pt.cells, Pt.slots] at X' e1 e2 e3 hQ stp
  subst e1 e2 e3 hp
  exact OGoal.via stp (k v T'.heap hQ.1 hQ.2 C T' _ X' rfl (Fr.app N hN))
theorem o_callV {index yl W : Nat} {C0 C1 : String} {y z : MethodName} {yb : ByteArray} {yr : Option FieldType} {rm : Room} {yQ : Option Value → Heap → Prop} {a : Addr} {argsL : List Value} {ps : List FieldType} {yr' : Option FieldType}
    (w1 : (Cond.methodLink own index y).before a0 Z = true) (w2 : (Cond.declares y).before a0 Z = true) (w3 : (Cond.selects C0 y z).before a0 Z = true) (wf : (Cond.selects C1 y y).before a0 Z = true) (w4 : (Cond.instanceMethod z).before a0 Z = true) (w5 : (Cond.code z yb yl yr).before a0 Z = true) (w6 : (Cond.initialized z.cls).before a0 Z = true)
    (hy : y.cls ≠ "java/lang/invoke/MethodHandle" ∧ y.cls ≠ "java/lang/invoke/VarHandle") (E : Exa Z h a C0) (K : Ext Z.heap h → OCtr l Z z yb yl yr rm (.ref a :: argsL).toArray h yQ) (hd : decode bytes pc = .ok (.invokevirtual index, 3))
    (hpd : parseMethodDescriptor y.desc = some ⟨ps, yr'⟩) (hpl : argsL.length = ps.length) (hsz : ls.size = ml) (hst : st = argsL.reverse ++ .ref a :: rest) (hW : (rest.map fun v => v.category).sum ≤ W)
    (hf : rm.frames + 1 ≤ R.frames) (hl : W + (yl + 11) + rm.locals ≤ R.locals) (hcc : cells + rm.cells ≤ R.cells) (hss : slots + rm.slots ≤ R.slots) (hp : pc + 3 = pc')
    (k : ∀ v h', yQ v h' → h.size ≤ h'.size → OG p l e R s m args below meth c Z own nm bytes ml ret Q kc ks h' (cells + rm.cells) (slots + rm.slots) (mkF m pc' ls (v.toList ++ rest))) : OG p l e R s m args below meth c Z own nm bytes ml ret Q kc ks h cells slots (mkF m pc ls st) := by
  intro C T locs X eT N
  have hE : Ext Z.heap h := eT ▸ own_ext X C.2.2.2.2.2.2.2.2 N
  obtain ⟨cq, kq, qa, qb, qc⟩ := isOf C.2.1 eT E
  obtain ⟨v, vm₁, ⟨T', L', k', n'⟩, -, X', ⟨L, ⟨hQ, hN⟩, e1, e2, e3⟩, stp⟩ := X.virtualBack C.1 (y := y) (z := z) C.2.2.1 (mvT C.2.1 w1) (mvT C.2.1 w2) (notFace_of_selects (args := #[]) (mvT C.2.1 wf)) (mvT C.2.1 w3) (mvT C.2.1 w4) hy
    (backOf (W := W) (Q := fun v h2 L => (yQ v h2 ∧ h.size ≤ h2.size) ∧ Fr Z.heap.size L) (K hE []) C.2.1 w5 w6 hf hl) qa qc (g := mkF m pc ls st) rfl (hsz.trans C.2.2.2.2.1.symm) (Steps.refl _) (argsL := argsL) (rest := rest) (lenOf hpd hpl) hst (by show 2 * 0 + _ ≤ _; rw [Nat.mul_zero, Nat.zero_add]; exact hW) (hb C.2.2.2.1 hd) (fun _ _ => ⟨rfl, eT, hcc, hss⟩)
  dsimp only [Pt.U, Pt.locs, Pt.cells, Pt.slots] at X' e1 e2 e3 hQ stp
  subst e1 e2 e3 hp
  exact OGoal.via (fun t kk => stp.trans kk) (k v T'.heap hQ.1 hQ.2 C T' _ X' rfl (Fr.app N hN))
theorem o_callI {index yl W : Nat} {y : MethodName} {yb : ByteArray} {rm : Room} {yQ : Option Value → Heap → Prop} {a : Addr} {argsL : List Value} {ps : List FieldType} {yr' : Option FieldType}
    (hyn : y.name = "<init>") (w1 : (Cond.methodLink own index y).before a0 Z = true) (w4 : (Cond.instanceMethod y).before a0 Z = true) (w5 : (Cond.code y yb yl none).before a0 Z = true) (w6 : (Cond.initialized y.cls).before a0 Z = true)
    (hy : y.cls ≠ "java/lang/invoke/MethodHandle" ∧ y.cls ≠ "java/lang/invoke/VarHandle") (K : Ext Z.heap h → OCtr l Z y yb yl none rm (.ref a :: argsL).toArray h yQ) (hd : decode bytes pc = .ok (.invokespecial index, 3))
    (hpd : parseMethodDescriptor y.desc = some ⟨ps, yr'⟩) (hpl : argsL.length = ps.length) (hsz : ls.size = ml) (hst : st = argsL.reverse ++ .ref a :: rest) (hW : (rest.map fun v => v.category).sum ≤ W)
    (hf : rm.frames + 1 ≤ R.frames) (hl : W + (yl + 11) + rm.locals ≤ R.locals) (hcc : cells + rm.cells ≤ R.cells) (hss : slots + rm.slots ≤ R.slots) (hp : pc + 3 = pc')
    (k : ∀ v h', yQ v h' → h.size ≤ h'.size → OG p l e R s m args below meth c Z own nm bytes ml ret Q kc ks h' (cells + rm.cells) (slots + rm.slots) (mkF m pc' ls (v.toList ++ rest))) : OG p l e R s m args below meth c Z own nm bytes ml ret Q kc ks h cells slots (mkF m pc ls st) := by
  intro C T locs X eT N
  have hE : Ext Z.heap h := eT ▸ own_ext X C.2.2.2.2.2.2.2.2 N
  obtain ⟨v, vm₁, ⟨T', L', k', n'⟩, -, X', ⟨L, ⟨hQ, hN⟩, e1, e2, e3⟩, stp⟩ := X.specialBack C.1 (y := y) hyn C.2.2.1 (mvT C.2.1 w1) (mvT C.2.1 w4) (mvT C.2.1 w5) hy
    (backOf (W := W) (Q := fun v h2 L => (yQ v h2 ∧ h.size ≤ h2.size) ∧ Fr Z.heap.size L) (K hE []) C.2.1 w5 w6 hf hl) (g := mkF m pc ls st) rfl (hsz.trans C.2.2.2.2.1.symm) (Steps.refl _) (a := a) (argsL := argsL) (rest := rest) (lenOf hpd hpl) hst (by show 2 * 0 + _ ≤ _; rw [Nat.mul_zero, Nat.zero_add]; exact hW) (hb C.2.2.2.1 hd) (fun _ _ => ⟨rfl, eT, hcc, hss⟩)
  dsimp only [Pt.U, Pt.locs, Pt.cells, Pt.slots] at X' e1 e2 e3 hQ stp
  subst e1 e2 e3 hp
  exact OGoal.via (fun t kk => stp.trans kk) (k v T'.heap hQ.1 hQ.2 C T' _ X' rfl (Fr.app N hN))
theorem o_initO {index W : Nat} {a : Addr} (w1 : (Cond.methodLink own index Lib.objectInit).before a0 Z = true) (w2 : (Cond.instanceMethod Lib.objectInit).before a0 Z = true) (w3 : (Cond.code Lib.objectInit ⟨#[0xb1]⟩ 1 none).before a0 Z = true)
    (hd : decode bytes pc = .ok (.invokespecial index, 3)) (hsz : ls.size = ml) (hW : (rest.map fun v => v.category).sum ≤ W) (hf : 1 ≤ R.frames) (hl : W + 12 ≤ R.locals) (hp : pc + 3 = pc')
    (k : OG p l e R s m args below meth c Z own nm bytes ml ret Q kc ks h cells slots (mkF m pc' ls rest)) : OG p l e R s m args below meth c Z own nm bytes ml ret Q kc ks h cells slots (mkF m pc ls (.ref a :: rest)) := by
  intro C T locs X eT N
  obtain ⟨T', X', e', stp⟩ := initO X C.1 C.2.1 C.2.2.1 w1 w2 w3 eT (g := mkF m pc ls (.ref a :: rest)) rfl (hsz.trans C.2.2.2.2.1.symm) rfl (hb C.2.2.2.1 hd) hf (W := W) (by show 2 * 0 + _ ≤ _; rw [Nat.mul_zero, Nat.zero_add]; exact hW) hl
  subst hp
  exact OGoal.via stp (k C T' locs X' e' N)
/-! objects -/
theorem o_getF {O n d host : String} {index : Nat} {a : Addr} {v : Value} (w : (Cond.fieldLink own index O n d).before a0 Z = true ∨ (Cond.fieldLinkNest own index O n d host).before a0 Z = true) (F : Fld Z h a O n d v) (hd : decode bytes pc = .ok (.getfield index, 3)) (hp : pc + 3 = pc')
    (k : OG p l e R s m args below meth c Z own nm bytes ml ret Q kc ks h cells slots (mkF m pc' ls (v :: rest))) : OG p l e R s m args below meth c Z own nm bytes ml ret Q kc ks h cells slots (mkF m pc ls (.ref a :: rest)) := by
  intro C T locs X eT N
  obtain ⟨T', X', e', stp⟩ := getF X C.1 C.2.1 C.2.2.1 w Via.refl eT F (g := mkF m pc ls (.ref a :: rest)) rfl rfl (hb C.2.2.2.1 hd)
  subst hp
  exact OGoal.via stp (k C T' locs X' e' N)
theorem o_putF {O n d host C0 : String} {index kk : Nat} {ty : FieldType} {a : Addr} {v old : Value} (w : (Cond.fieldLink own index O n d).before a0 Z = true ∨ (Cond.fieldLinkNest own index O n d host).before a0 Z = true) (F : Fld Z h a O n d old) (E : Exa Z h a C0)
    (L : (Cond.lays C0 O n d).before a0 Z = true ∨ ((Cond.laysFinal C0 O n d).before a0 Z = true ∧ own = O ∧ nm = "<init>")) (wi : (Cond.instantiable C0 kk).before a0 Z = true) (hty : parseFieldDescriptor d = some ty) (hn : narrow ty v = v) (hf : fits ty v = true) (ha : Z.heap.size ≤ a)
    (hd : decode bytes pc = .ok (.putfield index, 3)) (hp : pc + 3 = pc')
    (k : ∀ h', Wr h h' a (Jvm.RoadKit.slotOf Z O n d) v → OG p l e R s m args below meth c Z own nm bytes ml ret Q kc ks h' cells slots (mkF m pc' ls rest)) : OG p l e R s m args below meth c Z own nm bytes ml ret Q kc ks h cells slots (mkF m pc ls (v :: .ref a :: rest)) := by
  intro C T locs X eT N
  obtain ⟨T', h', X', e', W', stp⟩ := putF X C.1 C.2.1 C.2.2.1 w Via.refl eT F E (L.imp id fun q => ⟨q.1, q.2.1, C.2.2.2.2.2.2.2.1.trans q.2.2⟩) wi hty hn hf (g := mkF m pc ls (v :: .ref a :: rest)) rfl rfl (hb C.2.2.2.1 hd)
  subst hp
  exact OGoal.via stp (k h' W' C T' _ X' e' (Fr.snoc X' N ha))
theorem o_newO {C0 : String} {index n : Nat} (w : (Cond.classLink own index C0).before a0 Z = true) (wi : (Cond.instantiable C0 n).before a0 Z = true) (wz : (Cond.initialized C0).before a0 Z = true) (hd : decode bytes pc = .ok (.new index, 3)) (hc : cells + 1 ≤ R.cells) (hl : slots + n ≤ R.slots) (hp : pc + 3 = pc')
    (k : ∀ h' a, a = h.size → Z.heap.size ≤ a → Ext h h' → Exa Z h' a C0 → (∀ {O nm d : String} {ty : FieldType}, Laid Z a0 C0 O nm d → parseFieldDescriptor d = some ty → Fld Z h' a O nm d (defaultValue ty)) → OG p l e R s m args below meth c Z own nm bytes ml ret Q kc ks h' (cells + 1) (slots + n) (mkF m pc' ls (.ref a :: st))) : OG p l e R s m args below meth c Z own nm bytes ml ret Q kc ks h cells slots (mkF m pc ls st) := by
  intro C T locs X eT N
  have hE : Ext Z.heap h := eT ▸ own_ext X C.2.2.2.2.2.2.2.2 N
  obtain ⟨T', h', X', e', E', A', D', -, stp⟩ := newO X C.1 C.2.1 C.2.2.1 w wi wz eT (g := mkF m pc ls st) rfl (hb C.2.2.2.1 hd) hc hl
  subst hp
  exact OGoal.via stp (k h' h.size rfl hE.1 E' A' D' C T' _ X' e' N)
theorem own_word {L : List Jvm.Cond} {dc : Jvm.Cond} (hw : ∀ d ∈ L, d.before a0 Z = true) (i : Nat) (q : L[i]? = some dc) : dc.before a0 Z = true := hw _ (List.mem_of_getElem? q)
end OwnKit
section EnumKit
variable {p : Program} {l : Launch} {e : Env} {R : Room} {s : State} {m : MethodId} {args : Array Value} {below : List Frame} {meth : Method} {c : Code} {T : State} {locs : List Loc} {cells slots kc ks : Nat} {Z : State} {a0 : Array Value} {own nm : String} {bytes : ByteArray} {ml : Nat} {ret : Option FieldType} {Q : Option Value → Heap → Prop} {h h' : Heap} {pc pc' : Nat} {ls ls' : Array Slot} {st st' rest : List Value}
/-- the constants of an enum, by their ordinals -/
def OEnum (Z : State) (C D : String) (fs : List String) (A : Nat → Addr) : Prop :=
  ∀ i f, fs[i]? = some f → Sta Z Z.heap C f D (.ref (A i)) ∧ Exa Z Z.heap (A i) C ∧ Fld Z Z.heap (A i) "java/lang/Enum" "ordinal" "I" (.int (Int32.ofNat i))
theorem own_const {C f D : String} {k : Int32} (hx : (Cond.exactly (.static C f D) C).value args s none s [] = some true) (ho : (Cond.eq (.field (.static C f D) "java/lang/Enum" "ordinal" "I") (.int k)).value args s none s [] = some true)
    (wi : (Cond.initialized C).before args s = true) (wl : (Cond.laysStatic C f D).before args s = true) : ∃ a, Sta s s.heap C f D (.ref a) ∧ Exa s s.heap a C ∧ Fld s s.heap a "java/lang/Enum" "ordinal" "I" (.int k) := by
  obtain ⟨a, ev⟩ := exa_v hx
  have e1 := eqv_i (y := k) rfl ho
  rw [fld_at ev] at e1
  exact ⟨a, Sta.start ev (Or.inr ⟨wi, wl⟩), Exa.start ev hx, Fld.start e1⟩
theorem own_nat32 {i : Nat} (hi : i < 100) : (Int32.ofNat i).toInt = i := by
  have : (Int32.ofNat i).toInt = Int.bmod i (2 ^ 32) := Int32.toInt_ofNat'
  rw [this, Int.bmod_def]
  omega
theorem own_tag {i j : Nat} (hi : i < 100) (hj : j < 100) (q : Int32.ofNat i = Int32.ofNat j) : i = j := by
  have h1 := own_nat32 hi
  have h2 := own_nat32 hj
  rw [q] at h1
  omega
theorem OEnum.inj {C D : String} {fs : List String} {A : Nat → Addr} (hen : OEnum Z C D fs A) {i j : Nat} (hl : fs.length < 100) (hi : i < fs.length) (hj : j < fs.length) (q : A i = A j) : i = j := by
  by_cases r : i = j
  · exact r
  · have F := (hen i _ (List.getElem?_eq_getElem hi)).2.2
    have G := (hen j _ (List.getElem?_eq_getElem hj)).2.2
    exact absurd q (Fld.ne F G fun e => r (own_tag (by omega) (by omega) (Value.int.inj e)))
theorem own_pos (x : Int32) : 0 ≤ (x &&& 2147483647).toInt := by
  have h : (x &&& 2147483647).toBitVec.toNat = x.toBitVec.toNat % 2 ^ 31 := by
    rw [Int32.toBitVec_and, BitVec.toNat_and]
    exact Nat.and_two_pow_sub_one_eq_mod _ 31
  have h2 : (x &&& 2147483647).toInt = (x &&& 2147483647).toBitVec.toInt := rfl
  rw [h2, BitVec.toInt_eq_toNat_cond, h]
  split <;> omega
theorem own_mod (x : Int32) {n : Int32} {k : Nat} (hn : n.toInt = k) (hk : 0 < k) (hk2 : k ≤ 100) : ∃ t : Nat, t < k ∧ (x &&& 2147483647) % n = Int32.ofNat t := by
  have h1 := own_pos x
  have h2 : ((x &&& 2147483647) % n).toInt = (x &&& 2147483647).toInt.tmod n.toInt := Int32.toInt_mod _ _
  rw [Int.tmod_eq_emod_of_nonneg h1, hn] at h2
  have h3 := Int.emod_lt_of_pos (x &&& 2147483647).toInt (by omega : (0 : Int) < k)
  have h4 := Int.emod_nonneg (x &&& 2147483647).toInt (by omega : (k : Int) ≠ 0)
  refine ⟨((x &&& 2147483647) % n).toInt.toNat, by omega, Int32.toInt_inj.mp ?_⟩
  rw [own_nat32 (by omega)]
  omega
theorem o_aeq {o : Int} {A : Nat → Addr} {i j pc'' : Nat} (inj : A i = A j → i = j) (hd : decode bytes pc = .ok (.if_acmp .eq o, 3)) (ho : 0 ≤ (pc : Int) + o) (hp : ((pc : Int) + o).toNat = pc') (hp' : pc + 3 = pc'')
    (ky : i = j → OG p l e R s m args below meth c Z own nm bytes ml ret Q kc ks h cells slots (mkF m pc' ls rest)) (kn : ¬ i = j → OG p l e R s m args below meth c Z own nm bytes ml ret Q kc ks h cells slots (mkF m pc'' ls rest)) : OG p l e R s m args below meth c Z own nm bytes ml ret Q kc ks h cells slots (mkF m pc ls (.ref (A j) :: .ref (A i) :: rest)) := by
  by_cases r : i = j
  · exact o_acY hd rfl rfl ho hp (by subst r; exact rfl) (ky r)
  · exact o_acN hd rfl rfl hp' (fun q => r (inj (Value.ref.inj q))) (kn r)
theorem o_ane {o : Int} {A : Nat → Addr} {i j pc'' : Nat} (inj : A i = A j → i = j) (hd : decode bytes pc = .ok (.if_acmp .ne o, 3)) (ho : 0 ≤ (pc : Int) + o) (hp : ((pc : Int) + o).toNat = pc') (hp' : pc + 3 = pc'')
    (ky : ¬ i = j → OG p l e R s m args below meth c Z own nm bytes ml ret Q kc ks h cells slots (mkF m pc' ls rest)) (kn : i = j → OG p l e R s m args below meth c Z own nm bytes ml ret Q kc ks h cells slots (mkF m pc'' ls rest)) : OG p l e R s m args below meth c Z own nm bytes ml ret Q kc ks h cells slots (mkF m pc ls (.ref (A j) :: .ref (A i) :: rest)) := by
  by_cases r : i = j
  · exact o_acN hd rfl rfl hp' (by subst r; exact rfl) (kn r)
  · exact o_acY hd rfl rfl ho hp (fun q => r (inj (Value.ref.inj q))) (ky r)
end EnumKit
section ArrKit
variable {p : Program} {l : Launch} {e : Env} {R : Room} {s : State} {m : MethodId} {args : Array Value} {below : List Frame} {meth : Method} {c : Code} {T : State} {locs : List Loc} {cells slots kc ks : Nat} {Z : State} {a0 : Array Value} {own nm : String} {bytes : ByteArray} {ml : Nat} {ret : Option FieldType} {Q : Option Value → Heap → Prop} {h h' : Heap} {pc pc' : Nat} {ls ls' : Array Slot} {st st' rest : List Value} {a b : Addr} {ty : FieldType} {vs : List Value} {k0 : ClassId}
/-- an array, by what it holds -/
def OArr (Z : State) (h : Heap) (a : Addr) (k0 : ClassId) (ty : FieldType) (vs : List Value) : Prop := ∃ cl : Cell, Arr Z h a cl ty ∧ cl.cls = k0 ∧ cl.slots.toList = vs ∧ vs.length < 2 ^ 31
theorem OArr.lt (F : OArr Z h a k0 ty vs) : a < h.size := by obtain ⟨c, A, -⟩ := F; exact A.lt
theorem OArr.ext (F : OArr Z h a k0 ty vs) (E : Ext h h') : OArr Z h' a k0 ty vs := by obtain ⟨c, A, r⟩ := F; exact ⟨c, A.ext E, r⟩
theorem OArr.other {sl : Nat} {v : Value} (F : OArr Z h b k0 ty vs) (W : Wr h h' a sl v) (q : b ≠ a) : OArr Z h' b k0 ty vs := by obtain ⟨c, A, r⟩ := F; exact ⟨c, A.other W q, r⟩
theorem OArr.keep {ws : List Addr} (F : OArr Z h a k0 ty vs) (K : Keep h h' ws) (q : a ∉ ws) : OArr Z h' a k0 ty vs := by obtain ⟨c, A, r⟩ := F; exact ⟨c, ⟨K.2.1 a c A.1 q, A.2⟩, r⟩
theorem OArr.set {i : Nat} {v : Value} (F : OArr Z h a k0 ty vs) (W : Wr h h' a i v) : OArr Z h' a k0 ty (vs.set i v) := by
  obtain ⟨c, A, q0, q1, q2⟩ := F
  refine ⟨_, A.same W, q0, ?_, by rw [List.length_set]; exact q2⟩
  subst q1
  show (c.slots.setIfInBounds i v).toList = _
  rw [Array.toList_setIfInBounds]
theorem own_clamp {i : Nat} (hi : i < 2 ^ 31) : ¬ (Int32.ofNat i < 0) ∧ (Int32.ofNat i).toNatClampNeg = i := by
  have h1 : (Int32.ofNat i).toInt = i := by
    have : (Int32.ofNat i).toInt = Int.bmod i (2 ^ 32) := Int32.toInt_ofNat'
    rw [this, Int.bmod_def]
    omega
  refine ⟨?_, ?_⟩
  · rw [Int32.lt_iff_toInt_lt, h1]
    show ¬ (i : Int) < 0
    omega
  · show (Int32.ofNat i).toInt.toNat = i
    rw [h1]
    rfl
theorem OArr.at {i : Nat} {v : Value} (F : OArr Z h a k0 ty vs) (hv : vs[i]? = some v) : ∃ cl : Cell, Arr Z h a cl ty ∧ ¬ (Int32.ofNat i < 0 ∨ cl.slots.size ≤ (Int32.ofNat i).toNatClampNeg) ∧ cl.slots[(Int32.ofNat i).toNatClampNeg]? = some v ∧ (Int32.ofNat i).toNatClampNeg = i := by
  obtain ⟨c, A, q0, q1, q2⟩ := F
  subst q1
  have hi : i < c.slots.toList.length := (List.getElem?_eq_some_iff.mp hv).1
  obtain ⟨e1, e2⟩ := own_clamp (i := i) (by omega)
  refine ⟨c, A, ?_, ?_, e2⟩
  · rw [e2]
    intro z
    rcases z with z | z
    · exact e1 z
    · rw [Array.length_toList] at hi; omega
  · rw [e2, ← Array.getElem?_toList]; exact hv
theorem own_inn {i n : Nat} {cl : Cell} (hs : cl.slots.toList.length = n) (hn : n < 2 ^ 31) (hi : i < n) : ¬ (Int32.ofNat i < 0 ∨ cl.slots.size ≤ (Int32.ofNat i).toNatClampNeg) ∧ (Int32.ofNat i).toNatClampNeg = i := by
  obtain ⟨e1, e2⟩ := own_clamp (i := i) (by omega)
  refine ⟨?_, e2⟩
  rw [e2]
  intro z
  rcases z with z | z
  · exact e1 z
  · rw [Array.length_toList] at hs; omega
theorem o_len (F : OArr Z h a k0 ty vs) (hd : decode bytes pc = .ok (.arraylength, 1)) (hp : pc + 1 = pc')
    (k : OG p l e R s m args below meth c Z own nm bytes ml ret Q kc ks h cells slots (mkF m pc' ls (.int (Int32.ofNat vs.length) :: rest))) : OG p l e R s m args below meth c Z own nm bytes ml ret Q kc ks h cells slots (mkF m pc ls (.ref a :: rest)) := by
  intro C T locs X eT N
  obtain ⟨cl, A, q0, q1, q2⟩ := F
  subst hp q1
  refine OGoal.via (fun t kk => X.arraylength C.1 (by rw [eT]; exact A.1) (State.isArrayOf_alike C.2.1.alike A.2.1) (g := mkF m pc ls (.ref a :: rest)) rfl rfl (hb C.2.2.2.1 hd) t ?_) (k C T locs X eT N)
  rw [Array.length_toList] at kk
  exact kk
theorem o_iald {i : Nat} {j : Int32} {v : Value} (F : OArr Z h a k0 .int vs) (hj : j = Int32.ofNat i) (hv : vs[i]? = some v) (hd : decode bytes pc = .ok (.iaload, 1)) (hp : pc + 1 = pc')
    (k : OG p l e R s m args below meth c Z own nm bytes ml ret Q kc ks h cells slots (mkF m pc' ls (v :: rest))) : OG p l e R s m args below meth c Z own nm bytes ml ret Q kc ks h cells slots (mkF m pc ls (.int j :: .ref a :: rest)) := by
  intro C T locs X eT N
  subst hj hp
  obtain ⟨cl, A, e1, e2, -⟩ := F.at hv
  exact OGoal.via (fun t kk => X.iaload C.1 (by rw [eT]; exact A.1) (State.isArrayOf_alike C.2.1.alike A.2.1) A.2.2 e1 e2 (g := mkF m pc ls (.int (Int32.ofNat i) :: .ref a :: rest)) rfl rfl (hb C.2.2.2.1 hd) t kk) (k C T locs X eT N)
theorem o_bald {i : Nat} {j : Int32} {v : Value} (F : OArr Z h a k0 .byte vs) (hj : j = Int32.ofNat i) (hv : vs[i]? = some v) (hd : decode bytes pc = .ok (.baload, 1)) (hp : pc + 1 = pc')
    (k : OG p l e R s m args below meth c Z own nm bytes ml ret Q kc ks h cells slots (mkF m pc' ls (v :: rest))) : OG p l e R s m args below meth c Z own nm bytes ml ret Q kc ks h cells slots (mkF m pc ls (.int j :: .ref a :: rest)) := by
  intro C T locs X eT N
  subst hj hp
  obtain ⟨cl, A, e1, e2, -⟩ := F.at hv
  exact OGoal.via (fun t kk => X.baloadBytes C.1 (by rw [eT]; exact A.1) (State.isArrayOf_alike C.2.1.alike A.2.1) A.2.2 e1 e2 (g := mkF m pc ls (.int (Int32.ofNat i) :: .ref a :: rest)) rfl rfl (hb C.2.2.2.1 hd) t kk) (k C T locs X eT N)
theorem o_zald {i : Nat} {j : Int32} {v : Value} (F : OArr Z h a k0 .boolean vs) (hj : j = Int32.ofNat i) (hv : vs[i]? = some v) (hd : decode bytes pc = .ok (.baload, 1)) (hp : pc + 1 = pc')
    (k : OG p l e R s m args below meth c Z own nm bytes ml ret Q kc ks h cells slots (mkF m pc' ls (v :: rest))) : OG p l e R s m args below meth c Z own nm bytes ml ret Q kc ks h cells slots (mkF m pc ls (.int j :: .ref a :: rest)) := by
  intro C T locs X eT N
  subst hj hp
  obtain ⟨cl, A, e1, e2, -⟩ := F.at hv
  exact OGoal.via (fun t kk => X.baloadBooleans C.1 (by rw [eT]; exact A.1) (State.isArrayOf_alike C.2.1.alike A.2.1) A.2.2 e1 e2 (g := mkF m pc ls (.int (Int32.ofNat i) :: .ref a :: rest)) rfl rfl (hb C.2.2.2.1 hd) t kk) (k C T locs X eT N)
theorem o_aald {i : Nat} {j : Int32} {v : Value} (F : OArr Z h a k0 ty vs) (hty : ty.isReference = true) (hj : j = Int32.ofNat i) (hv : vs[i]? = some v) (hd : decode bytes pc = .ok (.aaload, 1)) (hp : pc + 1 = pc')
    (k : OG p l e R s m args below meth c Z own nm bytes ml ret Q kc ks h cells slots (mkF m pc' ls (v :: rest))) : OG p l e R s m args below meth c Z own nm bytes ml ret Q kc ks h cells slots (mkF m pc ls (.int j :: .ref a :: rest)) := by
  intro C T locs X eT N
  subst hj hp
  obtain ⟨cl, A, e1, e2, -⟩ := F.at hv
  exact OGoal.via (fun t kk => X.aaload C.1 (by rw [eT]; exact A.1) (State.isArrayOf_alike C.2.1.alike A.2.1) hty A.2.2 e1 e2 (g := mkF m pc ls (.int (Int32.ofNat i) :: .ref a :: rest)) rfl rfl (hb C.2.2.2.1 hd) t kk) (k C T locs X eT N)
theorem o_aaldJ {j : Int32} {v : Value} {cl : Cell} (A : Arr Z h a cl ty) (hty : ty.isReference = true) (hj : ¬ (j < 0 ∨ cl.slots.size ≤ j.toNatClampNeg)) (hv : cl.slots[j.toNatClampNeg]? = some v) (hd : decode bytes pc = .ok (.aaload, 1)) (hp : pc + 1 = pc')
    (k : OG p l e R s m args below meth c Z own nm bytes ml ret Q kc ks h cells slots (mkF m pc' ls (v :: rest))) : OG p l e R s m args below meth c Z own nm bytes ml ret Q kc ks h cells slots (mkF m pc ls (.int j :: .ref a :: rest)) := by
  intro C T locs X eT N
  subst hp
  exact OGoal.via (fun t kk => X.aaload C.1 (by rw [eT]; exact A.1) (State.isArrayOf_alike C.2.1.alike A.2.1) hty A.2.2 hj hv (g := mkF m pc ls (.int j :: .ref a :: rest)) rfl rfl (hb C.2.2.2.1 hd) t kk) (k C T locs X eT N)
theorem o_iast {i : Nat} {j x : Int32} (F : OArr Z h a k0 .int vs) (hj : j = Int32.ofNat i) (hi : i < vs.length) (ha : Z.heap.size ≤ a) (hd : decode bytes pc = .ok (.iastore, 1)) (hp : pc + 1 = pc')
    (k : ∀ h', Wr h h' a i (.int x) → OG p l e R s m args below meth c Z own nm bytes ml ret Q kc ks h' cells slots (mkF m pc' ls rest)) : OG p l e R s m args below meth c Z own nm bytes ml ret Q kc ks h cells slots (mkF m pc ls (.int x :: .int j :: .ref a :: rest)) := by
  intro C T locs X eT N
  subst hj hp
  obtain ⟨cl, A, q0, q1, q2⟩ := F
  obtain ⟨e1, e2⟩ := own_inn (i := i) (cl := cl) (by rw [q1]) q2 hi
  obtain ⟨T', h', X', e', W', stp⟩ := stI X C.1 C.2.1 eT A e1 (g := mkF m pc ls (.int x :: .int (Int32.ofNat i) :: .ref a :: rest)) rfl rfl (hb C.2.2.2.1 hd)
  exact OGoal.via stp (k h' (by rw [e2] at W'; exact W') C T' _ X' e' (Fr.snoc X' N ha))
theorem o_bast {i : Nat} {j x : Int32} (F : OArr Z h a k0 .byte vs) (hj : j = Int32.ofNat i) (hi : i < vs.length) (ha : Z.heap.size ≤ a) (hd : decode bytes pc = .ok (.bastore, 1)) (hp : pc + 1 = pc')
    (k : ∀ h', Wr h h' a i (.int (nar .byte x)) → OG p l e R s m args below meth c Z own nm bytes ml ret Q kc ks h' cells slots (mkF m pc' ls rest)) : OG p l e R s m args below meth c Z own nm bytes ml ret Q kc ks h cells slots (mkF m pc ls (.int x :: .int j :: .ref a :: rest)) := by
  intro C T locs X eT N
  subst hj hp
  obtain ⟨cl, A, q0, q1, q2⟩ := F
  obtain ⟨e1, e2⟩ := own_inn (i := i) (cl := cl) (by rw [q1]) q2 hi
  obtain ⟨T', h', X', e', W', stp⟩ := stB X C.1 C.2.1 eT A e1 (g := mkF m pc ls (.int x :: .int (Int32.ofNat i) :: .ref a :: rest)) rfl rfl (hb C.2.2.2.1 hd)
  exact OGoal.via stp (k h' (by rw [e2] at W'; exact W') C T' _ X' e' (Fr.snoc X' N ha))
theorem o_zast {i : Nat} {j x : Int32} (F : OArr Z h a k0 .boolean vs) (hj : j = Int32.ofNat i) (hi : i < vs.length) (ha : Z.heap.size ≤ a) (hd : decode bytes pc = .ok (.bastore, 1)) (hp : pc + 1 = pc')
    (k : ∀ h', Wr h h' a i (.int (nar .boolean x)) → OG p l e R s m args below meth c Z own nm bytes ml ret Q kc ks h' cells slots (mkF m pc' ls rest)) : OG p l e R s m args below meth c Z own nm bytes ml ret Q kc ks h cells slots (mkF m pc ls (.int x :: .int j :: .ref a :: rest)) := by
  intro C T locs X eT N
  subst hj hp
  obtain ⟨cl, A, q0, q1, q2⟩ := F
  obtain ⟨e1, e2⟩ := own_inn (i := i) (cl := cl) (by rw [q1]) q2 hi
  obtain ⟨T', h', X', e', W', stp⟩ := stZ X C.1 C.2.1 eT A e1 (g := mkF m pc ls (.int x :: .int (Int32.ofNat i) :: .ref a :: rest)) rfl rfl (hb C.2.2.2.1 hd)
  exact OGoal.via stp (k h' (by rw [e2] at W'; exact W') C T' _ X' e' (Fr.snoc X' N ha))
theorem o_aast {i : Nat} {j : Int32} {v : Value} (F : OArr Z h a k0 ty vs) (hty : ty.isReference = true) (S : Sto Z h a v) (hj : j = Int32.ofNat i) (hi : i < vs.length) (ha : Z.heap.size ≤ a) (hd : decode bytes pc = .ok (.aastore, 1)) (hp : pc + 1 = pc')
    (k : ∀ h', Wr h h' a i v → OG p l e R s m args below meth c Z own nm bytes ml ret Q kc ks h' cells slots (mkF m pc' ls rest)) : OG p l e R s m args below meth c Z own nm bytes ml ret Q kc ks h cells slots (mkF m pc ls (v :: .int j :: .ref a :: rest)) := by
  intro C T locs X eT N
  subst hj hp
  obtain ⟨cl, A, q0, q1, q2⟩ := F
  obtain ⟨e1, e2⟩ := own_inn (i := i) (cl := cl) (by rw [q1]) q2 hi
  obtain ⟨T', h', X', e', W', stp⟩ := stR X C.1 C.2.1 eT A e1 hty S (g := mkF m pc ls (v :: .int (Int32.ofNat i) :: .ref a :: rest)) rfl rfl (hb C.2.2.2.1 hd)
  exact OGoal.via stp (k h' (by rw [e2] at W'; exact W') C T' _ X' e' (Fr.snoc X' N ha))
theorem own_newA {cA : ClassId} {n : Nat} (hn : n < 2 ^ 31) (A : Arr Z h a (newA cA ty (Int32.ofNat n)) ty) : OArr Z h a cA ty (List.replicate n (defaultValue ty)) := by
  refine ⟨_, A, rfl, ?_, by rw [List.length_replicate]; exact hn⟩
  show (Array.replicate (Int32.ofNat n).toNatClampNeg (defaultValue ty)).toList = _
  rw [(own_clamp hn).2, Array.toList_replicate]
theorem o_newP {aty : ArrayType} {n cap : Nat} {j : Int32} (w : (Cond.arrayClass (newarray.typeOf aty)).before a0 Z = true) (hj : j = Int32.ofNat n) (hn : n ≤ cap) (hcap : cap < 60000000) (hd : decode bytes pc = .ok (.newarray aty, 2)) (hc : cells + 1 ≤ R.cells) (hl : slots + cap ≤ R.slots) (hp : pc + 2 = pc')
    (k : ∀ h' a k0, a = h.size → Z.heap.size ≤ a → Ext h h' → OArr Z h' a k0 (newarray.typeOf aty) (List.replicate n (defaultValue (newarray.typeOf aty))) → OG p l e R s m args below meth c Z own nm bytes ml ret Q kc ks h' (cells + 1) (slots + cap) (mkF m pc' ls (.ref a :: rest))) : OG p l e R s m args below meth c Z own nm bytes ml ret Q kc ks h cells slots (mkF m pc ls (.int j :: rest)) := by
  intro C T locs X eT N
  subst hj hp
  have hE : Ext Z.heap h := eT ▸ own_ext X C.2.2.2.2.2.2.2.2 N
  obtain ⟨e1, e2⟩ := own_clamp (i := n) (by omega)
  obtain ⟨T', h', cA, X', e', E', A', stp⟩ := newP X C.1 C.2.1 w eT (g := mkF m pc ls (.int (Int32.ofNat n) :: rest)) rfl (hb C.2.2.2.1 hd) rfl e1 (cap := cap) (by rw [e2]; exact hn) (by omega) hc hl
  exact OGoal.via stp (k h' h.size cA rfl hE.1 E' (own_newA (by omega) A') C T' _ X' e' N)
theorem o_newR {C0 : String} {index n cap : Nat} {j : Int32} (w1 : (Cond.classLink own index C0).before a0 Z = true) (w2 : (Cond.arrayOver (.object C0)).before a0 Z = true) (hj : j = Int32.ofNat n) (hn : n ≤ cap) (hcap : cap < 60000000) (hd : decode bytes pc = .ok (.anewarray index, 3)) (hc : cells + 1 ≤ R.cells) (hl : slots + cap ≤ R.slots) (hp : pc + 3 = pc')
    (k : ∀ h' a k0, a = h.size → Z.heap.size ≤ a → Ext h h' → OArr Z h' a k0 (.object C0) (List.replicate n .null) → Ovr Z k0 C0 → OG p l e R s m args below meth c Z own nm bytes ml ret Q kc ks h' (cells + 1) (slots + cap) (mkF m pc' ls (.ref a :: rest))) : OG p l e R s m args below meth c Z own nm bytes ml ret Q kc ks h cells slots (mkF m pc ls (.int j :: rest)) := by
  intro C T locs X eT N
  subst hj hp
  have hE : Ext Z.heap h := eT ▸ own_ext X C.2.2.2.2.2.2.2.2 N
  obtain ⟨e1, e2⟩ := own_clamp (i := n) (by omega)
  obtain ⟨T', h', cA, X', e', E', A', O', stp⟩ := newR X C.1 C.2.1 C.2.2.1 w1 w2 eT (g := mkF m pc ls (.int (Int32.ofNat n) :: rest)) rfl (hb C.2.2.2.1 hd) rfl e1 (cap := cap) (by rw [e2]; exact hn) (by omega) hc hl
  exact OGoal.via stp (k h' h.size cA rfl hE.1 E' (own_newA (by omega) A') O' C T' _ X' e' N)
theorem own_sto {y : Addr} {C0 : String} (F : OArr Z h a k0 ty vs) (O : Ovr Z k0 C0) (I : Ins Z h y C0 true) : Sto Z h a (.ref y) := by
  obtain ⟨cl, A, q0, q1, q2⟩ := F
  exact Sto.ofV A q0 O I
end ArrKit
def own_exp (t : Nat) : Int32 := if t = 0 ∨ t = 1 then 1 else 0
theorem own_sel (A : Nat → Addr) : ∀ t < 5, ([Value.ref (A 0), .ref (A 1), .ref (A 2), .ref (A 3), .ref (A 4)] : List Value)[t]? = some (.ref (A t)) := by
  intro t ht
  match t, ht with
  | 0, _ => rfl
  | 1, _ => rfl
  | 2, _ => rfl
  | 3, _ => rfl
  | 4, _ => rfl
theorem own_sele : ∀ t < 5, ([Value.int 1, .int 1, .int 0, .int 0, .int 0] : List Value)[t]? = some (.int (own_exp t)) := by
  intro t ht
  match t, ht with
  | 0, _ => rfl
  | 1, _ => rfl
  | 2, _ => rfl
  | 3, _ => rfl
  | 4, _ => rfl
theorem own_zwr {Z : State} {h h' : Heap} {a : Addr} {sl : Nat} {v : Value} (E : Ext Z.heap h) (W : Wr h h' a sl v) (q : Z.heap.size ≤ a) : Ext Z.heap h' := ((Old.wr (Z := Z) (n0 := Z.heap.size) ⟨rfl, E⟩ W q)).2
theorem own_zext {Z : State} {h h' : Heap} (E : Ext Z.heap h) (E' : Ext h h') : Ext Z.heap h' := ⟨Nat.le_trans E.1 E'.1, fun a c q => E'.2 a c (E.2 a c q)⟩

theorem b1_0_1 : oBlk prog_11_method_5_code 0 [.aload_n 0] = some 1 := by decide +kernel
theorem d1_1 : decode prog_11_method_5_code 1 = .ok (.getstatic 3, 3) := by decide +kernel
theorem d1_4 : decode prog_11_method_5_code 4 = .ok (.if_acmp .eq 10, 3) := by decide +kernel
theorem b1_14_15 : oBlk prog_11_method_5_code 14 [.iconst 1] = some 15 := by decide +kernel
theorem d1_15 : decode prog_11_method_5_code 15 = .ok (.goto 4, 3) := by decide +kernel
theorem d1_19 : decode prog_11_method_5_code 19 = .ok (.ireturn, 1) := by decide +kernel
theorem b1_7_8 : oBlk prog_11_method_5_code 7 [.aload_n 0] = some 8 := by decide +kernel
theorem d1_8 : decode prog_11_method_5_code 8 = .ok (.getstatic 7, 3) := by decide +kernel
theorem d1_11 : decode prog_11_method_5_code 11 = .ok (.if_acmp .ne 7, 3) := by decide +kernel
theorem b1_18_19 : oBlk prog_11_method_5_code 18 [.iconst 0] = some 19 := by decide +kernel
theorem pn_0 : plainName "com/example/pierspot/pierspot/game/Move$Separation$Kind" = true := by first | (simp [plainName, overriddenIn]; done) | decide +kernel
theorem b2_0_1 : oBlk prog_11_method_4_code 0 [.aload_n 0] = some 1 := by decide +kernel
theorem d2_1 : decode prog_11_method_4_code 1 = .ok (.getstatic 10, 3) := by decide +kernel
theorem d2_4 : decode prog_11_method_4_code 4 = .ok (.if_acmp .eq 10, 3) := by decide +kernel
theorem b2_14_15 : oBlk prog_11_method_4_code 14 [.iconst 1] = some 15 := by decide +kernel
theorem d2_15 : decode prog_11_method_4_code 15 = .ok (.goto 4, 3) := by decide +kernel
theorem d2_19 : decode prog_11_method_4_code 19 = .ok (.ireturn, 1) := by decide +kernel
theorem b2_7_8 : oBlk prog_11_method_4_code 7 [.aload_n 0] = some 8 := by decide +kernel
theorem d2_8 : decode prog_11_method_4_code 8 = .ok (.getstatic 13, 3) := by decide +kernel
theorem d2_11 : decode prog_11_method_4_code 11 = .ok (.if_acmp .ne 7, 3) := by decide +kernel
theorem b2_18_19 : oBlk prog_11_method_4_code 18 [.iconst 0] = some 19 := by decide +kernel
theorem b0_0_1 : oBlk code 0 [.iload_n 0] = some 1 := by decide +kernel
theorem d0_1 : decode code 1 = .ok (.ldc 7, 2) := by decide +kernel
theorem b0_3_5 : oBlk code 3 [.iand, .iconst 5] = some 5 := by decide +kernel
theorem d0_5 : decode code 5 = .ok (.irem, 1) := by decide +kernel
theorem b0_6_7 : oBlk code 6 [.istore_n 1] = some 7 := by decide +kernel
theorem b0_7_8 : oBlk code 7 [.iconst 5] = some 8 := by decide +kernel
theorem d0_8 : decode code 8 = .ok (.anewarray 8, 3) := by decide +kernel
theorem b0_11_13 : oBlk code 11 [.dup, .iconst 0] = some 13 := by decide +kernel
theorem d0_13 : decode code 13 = .ok (.getstatic 10, 3) := by decide +kernel
theorem d0_16 : decode code 16 = .ok (.aastore, 1) := by decide +kernel
theorem b0_17_19 : oBlk code 17 [.dup, .iconst 1] = some 19 := by decide +kernel
theorem d0_19 : decode code 19 = .ok (.getstatic 14, 3) := by decide +kernel
theorem d0_22 : decode code 22 = .ok (.aastore, 1) := by decide +kernel
theorem b0_23_25 : oBlk code 23 [.dup, .iconst 2] = some 25 := by decide +kernel
theorem d0_25 : decode code 25 = .ok (.getstatic 17, 3) := by decide +kernel
theorem d0_28 : decode code 28 = .ok (.aastore, 1) := by decide +kernel
theorem b0_29_31 : oBlk code 29 [.dup, .iconst 3] = some 31 := by decide +kernel
theorem d0_31 : decode code 31 = .ok (.getstatic 20, 3) := by decide +kernel
theorem d0_34 : decode code 34 = .ok (.aastore, 1) := by decide +kernel
theorem b0_35_37 : oBlk code 35 [.dup, .iconst 4] = some 37 := by decide +kernel
theorem d0_37 : decode code 37 = .ok (.getstatic 23, 3) := by decide +kernel
theorem d0_40 : decode code 40 = .ok (.aastore, 1) := by decide +kernel
theorem b0_41_42 : oBlk code 41 [.astore_n 2] = some 42 := by decide +kernel
theorem b0_42_43 : oBlk code 42 [.iconst 5] = some 43 := by decide +kernel
theorem d0_43 : decode code 43 = .ok (.newarray .boolean, 2) := by decide +kernel
theorem b0_45_48 : oBlk code 45 [.dup, .iconst 0, .iconst 1] = some 48 := by decide +kernel
theorem d0_48 : decode code 48 = .ok (.bastore, 1) := by decide +kernel
theorem b0_49_52 : oBlk code 49 [.dup, .iconst 1, .iconst 1] = some 52 := by decide +kernel
theorem d0_52 : decode code 52 = .ok (.bastore, 1) := by decide +kernel
theorem b0_53_56 : oBlk code 53 [.dup, .iconst 2, .iconst 0] = some 56 := by decide +kernel
theorem d0_56 : decode code 56 = .ok (.bastore, 1) := by decide +kernel
theorem b0_57_60 : oBlk code 57 [.dup, .iconst 3, .iconst 0] = some 60 := by decide +kernel
theorem d0_60 : decode code 60 = .ok (.bastore, 1) := by decide +kernel
theorem b0_61_64 : oBlk code 61 [.dup, .iconst 4, .iconst 0] = some 64 := by decide +kernel
theorem d0_64 : decode code 64 = .ok (.bastore, 1) := by decide +kernel
theorem b0_65_66 : oBlk code 65 [.astore_n 3] = some 66 := by decide +kernel
theorem b0_66_68 : oBlk code 66 [.aload_n 2, .iload_n 1] = some 68 := by decide +kernel
theorem d0_68 : decode code 68 = .ok (.aaload, 1) := by decide +kernel
theorem b0_69_71 : oBlk code 69 [.astore 4] = some 71 := by decide +kernel
theorem b0_71_73 : oBlk code 71 [.aload 4] = some 73 := by decide +kernel
theorem d0_73 : decode code 73 = .ok (.invokevirtual 26, 3) := by decide +kernel
theorem pd_0 : parseMethodDescriptor "()Z" = some ⟨[], some .boolean⟩ := by decide +kernel
theorem b0_76_78 : oBlk code 76 [.istore 5] = some 78 := by decide +kernel
theorem b0_78_82 : oBlk code 78 [.iload 5, .aload_n 3, .iload_n 1] = some 82 := by decide +kernel
theorem d0_82 : decode code 82 = .ok (.baload, 1) := by decide +kernel
theorem d0_83 : decode code 83 = .ok (.if_icmp .ne 20, 3) := by decide +kernel
theorem b0_86_88 : oBlk code 86 [.iload 5] = some 88 := by decide +kernel
theorem d0_88 : decode code 88 = .ok (.ifCond .eq 11, 3) := by decide +kernel
theorem b0_99_100 : oBlk code 99 [.iconst 1] = some 100 := by decide +kernel
theorem d0_100 : decode code 100 = .ok (.goto 4, 3) := by decide +kernel
theorem d0_104 : decode code 104 = .ok (.ireturn, 1) := by decide +kernel
theorem b0_91_93 : oBlk code 91 [.aload 4] = some 93 := by decide +kernel
theorem d0_93 : decode code 93 = .ok (.invokevirtual 30, 3) := by decide +kernel
theorem d0_96 : decode code 96 = .ok (.ifCond .ne 7, 3) := by decide +kernel
theorem pn_1 : plainName "com/example/pierspot/pierspot/game/KindSeparatesNothingPinLaw" = true := by first | (simp [plainName, overriddenIn]; done) | decide +kernel
set_option maxRecDepth 65536 in
set_option maxHeartbeats 40000000 in
theorem rm_sep (l : Launch) (Z : State) (a0 : Array Value) (hw : ∀ d ∈ tables_1, d.before a0 Z = true) (A : Nat → Addr) (hen : OEnum Z "com/example/pierspot/pierspot/game/Move$Separation$Kind" "Lcom/example/pierspot/pierspot/game/Move$Separation$Kind;" ["UNWRITTEN", "NOTHING", "LEFT", "RIGHT", "ALL_LEFT"] A) (t : Nat) (ht : t < 5) (h0 : Heap) (hE0 : Ext Z.heap h0)  :
    OCtr l Z (⟨"com/example/pierspot/pierspot/game/Move$Separation$Kind", "separatesNothing", "()Z"⟩ : MethodName) prog_11_method_5_code 1 (some .boolean) ({ frames := 0, cells := 0, slots := 0, locals := 0 } : Room) #[(.ref (A t))] h0 (fun v h => v = some (.int (if t = 0 ∨ t = 1 then 1 else 0)) ∧ h0 = h) := by
  refine o_body (ls0 := #[.val (.ref (A t))]) (plainFor_of_name pn_0) hE0 (fun m => by first | (simp [entryFrame, mkF, argsToLocals, Value.category]; done) | rfl) ?_
  intro pG eG sG mG bG meG cG
  refine o_blk (pc' := 1) (st' := [(.ref (A t))]) (ls' := #[.val (.ref (A t))]) b1_0_1 rfl ?_
  refine o_getS (pc' := 4) (v := (.ref (A 0))) (own_word hw 21 rfl) (hen 0 "UNWRITTEN" rfl).1 d1_1 rfl ?_
  refine o_aeq (A := A) (i := t) (j := 0) (pc' := 14) (pc'' := 7) (fun q => hen.inj (by decide) ht (by decide) q) d1_4 (by decide) (by decide) rfl (fun (hc4_1 : t = 0) => ?_) (fun (hc4_1 : ¬ t = 0) => ?_)
  ·
    refine o_blk (pc' := 15) (st' := [(.int (1 : Int32))]) (ls' := #[.val (.ref (A t))]) b1_14_15 rfl ?_
    refine o_goto (pc' := 19) d1_15 (by decide) (by decide) ?_
    exact o_retZ (w := 0) d1_19 (by decide) (by decide) rfl (by decide) ⟨by simp [*], rfl⟩
  ·
    refine o_blk (pc' := 8) (st' := [(.ref (A t))]) (ls' := #[.val (.ref (A t))]) b1_7_8 rfl ?_
    refine o_getS (pc' := 11) (v := (.ref (A 1))) (own_word hw 29 rfl) (hen 1 "NOTHING" rfl).1 d1_8 rfl ?_
    refine o_ane (A := A) (i := t) (j := 1) (pc' := 18) (pc'' := 14) (fun q => hen.inj (by decide) ht (by decide) q) d1_11 (by decide) (by decide) rfl (fun (hc11_2 : ¬ t = 1) => ?_) (fun (hc11_2 : t = 1) => ?_)
    ·
      refine o_blk (pc' := 19) (st' := [(.int (0 : Int32))]) (ls' := #[.val (.ref (A t))]) b1_18_19 rfl ?_
      exact o_retZ (w := 0) d1_19 (by decide) (by decide) rfl (by decide) ⟨by simp [*], rfl⟩
    ·
      refine o_blk (pc' := 15) (st' := [(.int (1 : Int32))]) (ls' := #[.val (.ref (A t))]) b1_14_15 rfl ?_
      refine o_goto (pc' := 19) d1_15 (by decide) (by decide) ?_
      exact o_retZ (w := 0) d1_19 (by decide) (by decide) rfl (by decide) ⟨by simp [*], rfl⟩
set_option maxRecDepth 65536 in
set_option maxHeartbeats 40000000 in
theorem rm_side (l : Launch) (Z : State) (a0 : Array Value) (hw : ∀ d ∈ tables_1, d.before a0 Z = true) (A : Nat → Addr) (hen : OEnum Z "com/example/pierspot/pierspot/game/Move$Separation$Kind" "Lcom/example/pierspot/pierspot/game/Move$Separation$Kind;" ["UNWRITTEN", "NOTHING", "LEFT", "RIGHT", "ALL_LEFT"] A) (t : Nat) (ht : t < 5) (h0 : Heap) (hE0 : Ext Z.heap h0)  :
    OCtr l Z (⟨"com/example/pierspot/pierspot/game/Move$Separation$Kind", "namesSide", "()Z"⟩ : MethodName) prog_11_method_4_code 1 (some .boolean) ({ frames := 0, cells := 0, slots := 0, locals := 0 } : Room) #[(.ref (A t))] h0 (fun v h => v = some (.int (if t = 2 ∨ t = 3 then 1 else 0)) ∧ h0 = h) := by
  refine o_body (ls0 := #[.val (.ref (A t))]) (plainFor_of_name pn_0) hE0 (fun m => by first | (simp [entryFrame, mkF, argsToLocals, Value.category]; done) | rfl) ?_
  intro pG eG sG mG bG meG cG
  refine o_blk (pc' := 1) (st' := [(.ref (A t))]) (ls' := #[.val (.ref (A t))]) b2_0_1 rfl ?_
  refine o_getS (pc' := 4) (v := (.ref (A 2))) (own_word hw 27 rfl) (hen 2 "LEFT" rfl).1 d2_1 rfl ?_
  refine o_aeq (A := A) (i := t) (j := 2) (pc' := 14) (pc'' := 7) (fun q => hen.inj (by decide) ht (by decide) q) d2_4 (by decide) (by decide) rfl (fun (hc4_1 : t = 2) => ?_) (fun (hc4_1 : ¬ t = 2) => ?_)
  ·
    refine o_blk (pc' := 15) (st' := [(.int (1 : Int32))]) (ls' := #[.val (.ref (A t))]) b2_14_15 rfl ?_
    refine o_goto (pc' := 19) d2_15 (by decide) (by decide) ?_
    exact o_retZ (w := 0) d2_19 (by decide) (by decide) rfl (by decide) ⟨by simp [*], rfl⟩
  ·
    refine o_blk (pc' := 8) (st' := [(.ref (A t))]) (ls' := #[.val (.ref (A t))]) b2_7_8 rfl ?_
    refine o_getS (pc' := 11) (v := (.ref (A 3))) (own_word hw 28 rfl) (hen 3 "RIGHT" rfl).1 d2_8 rfl ?_
    refine o_ane (A := A) (i := t) (j := 3) (pc' := 18) (pc'' := 14) (fun q => hen.inj (by decide) ht (by decide) q) d2_11 (by decide) (by decide) rfl (fun (hc11_2 : ¬ t = 3) => ?_) (fun (hc11_2 : t = 3) => ?_)
    ·
      refine o_blk (pc' := 19) (st' := [(.int (0 : Int32))]) (ls' := #[.val (.ref (A t))]) b2_18_19 rfl ?_
      exact o_retZ (w := 0) d2_19 (by decide) (by decide) rfl (by decide) ⟨by simp [*], rfl⟩
    ·
      refine o_blk (pc' := 15) (st' := [(.int (1 : Int32))]) (ls' := #[.val (.ref (A t))]) b2_14_15 rfl ?_
      refine o_goto (pc' := 19) d2_15 (by decide) (by decide) ?_
      exact o_retZ (w := 0) d2_19 (by decide) (by decide) rfl (by decide) ⟨by simp [*], rfl⟩
set_option maxRecDepth 65536 in
set_option maxHeartbeats 40000000 in
theorem rm_law (l : Launch) (Z : State) (a0 : Array Value) (hw : ∀ d ∈ tables_1, d.before a0 Z = true) (A : Nat → Addr) (hen : OEnum Z "com/example/pierspot/pierspot/game/Move$Separation$Kind" "Lcom/example/pierspot/pierspot/game/Move$Separation$Kind;" ["UNWRITTEN", "NOTHING", "LEFT", "RIGHT", "ALL_LEFT"] A) (p1 : Int32) (h0 : Heap) (hE0 : Ext Z.heap h0)  :
    OCtr l Z x code maxLocals ret room_1 #[(.int p1)] h0 (fun v h => v = some (.int 1)) := by
  refine o_body (ls0 := #[.val (.int p1), .unset, .unset, .unset, .unset, .unset]) (plainFor_of_name pn_1) hE0 (fun m => by first | (simp [entryFrame, mkF, argsToLocals, Value.category, maxLocals]; done) | rfl) ?_
  intro pG eG sG mG bG meG cG
  refine o_blk (pc' := 1) (st' := [(.int p1)]) (ls' := #[.val (.int p1), .unset, .unset, .unset, .unset, .unset]) b0_0_1 rfl ?_
  refine o_ldc (pc' := 3) (v := 2147483647) (own_word hw 0 rfl) d0_1 rfl ?_
  refine o_blk (pc' := 5) (st' := [(.int (5 : Int32)), (.int (p1 &&& (2147483647 : Int32)))]) (ls' := #[.val (.int p1), .unset, .unset, .unset, .unset, .unset]) b0_3_5 rfl ?_
  refine o_irem (pc' := 6) d0_5 (by decide) rfl ?_
  obtain ⟨t, ht, hte⟩ := own_mod p1 (n := 5) (k := 5) rfl (by decide) (by decide)
  rw [hte]
  refine o_blk (pc' := 7) (st' := []) (ls' := #[.val (.int p1), .val (.int (Int32.ofNat t)), .unset, .unset, .unset, .unset]) b0_6_7 rfl ?_
  refine o_blk (pc' := 8) (st' := [(.int (5 : Int32))]) (ls' := #[.val (.int p1), .val (.int (Int32.ofNat t)), .unset, .unset, .unset, .unset]) b0_7_8 rfl ?_
  refine o_newR (n := 5) (cap := 5) (pc' := 11) (own_word hw 1 rfl) (own_word hw 2 rfl) rfl (by omega) (by decide) d0_8 (by decide) (by decide) rfl ?_
  intro h1 a1 k1 ea1 na1 X1 F1 O1
  have Zx2 := own_zext hE0 X1
  refine o_blk (pc' := 13) (st' := [(.int (0 : Int32)), (.ref a1), (.ref a1)]) (ls' := #[.val (.int p1), .val (.int (Int32.ofNat t)), .unset, .unset, .unset, .unset]) b0_11_13 rfl ?_
  refine o_getS (pc' := 16) (v := (.ref (A 0))) (own_word hw 3 rfl) (hen 0 "UNWRITTEN" rfl).1 d0_13 rfl ?_
  refine o_aast (i := 0) (pc' := 17) F1 rfl (own_sto F1 O1 (Ins.self ((hen 0 _ rfl).2.1.ext Zx2))) rfl (by simp) na1 d0_16 rfl ?_
  intro h3 W3
  have F4 := F1.set W3
  have Zx5 := own_zwr Zx2 W3 na1
  refine o_blk (pc' := 19) (st' := [(.int (1 : Int32)), (.ref a1), (.ref a1)]) (ls' := #[.val (.int p1), .val (.int (Int32.ofNat t)), .unset, .unset, .unset, .unset]) b0_17_19 rfl ?_
  refine o_getS (pc' := 22) (v := (.ref (A 1))) (own_word hw 7 rfl) (hen 1 "NOTHING" rfl).1 d0_19 rfl ?_
  refine o_aast (i := 1) (pc' := 23) F4 rfl (own_sto F4 O1 (Ins.self ((hen 1 _ rfl).2.1.ext Zx5))) rfl (by simp) na1 d0_22 rfl ?_
  intro h6 W6
  have F7 := F4.set W6
  have Zx8 := own_zwr Zx5 W6 na1
  refine o_blk (pc' := 25) (st' := [(.int (2 : Int32)), (.ref a1), (.ref a1)]) (ls' := #[.val (.int p1), .val (.int (Int32.ofNat t)), .unset, .unset, .unset, .unset]) b0_23_25 rfl ?_
  refine o_getS (pc' := 28) (v := (.ref (A 2))) (own_word hw 9 rfl) (hen 2 "LEFT" rfl).1 d0_25 rfl ?_
  refine o_aast (i := 2) (pc' := 29) F7 rfl (own_sto F7 O1 (Ins.self ((hen 2 _ rfl).2.1.ext Zx8))) rfl (by simp) na1 d0_28 rfl ?_
  intro h9 W9
  have F10 := F7.set W9
  have Zx11 := own_zwr Zx8 W9 na1
  refine o_blk (pc' := 31) (st' := [(.int (3 : Int32)), (.ref a1), (.ref a1)]) (ls' := #[.val (.int p1), .val (.int (Int32.ofNat t)), .unset, .unset, .unset, .unset]) b0_29_31 rfl ?_
  refine o_getS (pc' := 34) (v := (.ref (A 3))) (own_word hw 11 rfl) (hen 3 "RIGHT" rfl).1 d0_31 rfl ?_
  refine o_aast (i := 3) (pc' := 35) F10 rfl (own_sto F10 O1 (Ins.self ((hen 3 _ rfl).2.1.ext Zx11))) rfl (by simp) na1 d0_34 rfl ?_
  intro h12 W12
  have F13 := F10.set W12
  have Zx14 := own_zwr Zx11 W12 na1
  refine o_blk (pc' := 37) (st' := [(.int (4 : Int32)), (.ref a1), (.ref a1)]) (ls' := #[.val (.int p1), .val (.int (Int32.ofNat t)), .unset, .unset, .unset, .unset]) b0_35_37 rfl ?_
  refine o_getS (pc' := 40) (v := (.ref (A 4))) (own_word hw 13 rfl) (hen 4 "ALL_LEFT" rfl).1 d0_37 rfl ?_
  refine o_aast (i := 4) (pc' := 41) F13 rfl (own_sto F13 O1 (Ins.self ((hen 4 _ rfl).2.1.ext Zx14))) rfl (by simp) na1 d0_40 rfl ?_
  intro h15 W15
  have F16 := F13.set W15
  have Zx17 := own_zwr Zx14 W15 na1
  refine o_blk (pc' := 42) (st' := []) (ls' := #[.val (.int p1), .val (.int (Int32.ofNat t)), .val (.ref a1), .unset, .unset, .unset]) b0_41_42 rfl ?_
  refine o_blk (pc' := 43) (st' := [(.int (5 : Int32))]) (ls' := #[.val (.int p1), .val (.int (Int32.ofNat t)), .val (.ref a1), .unset, .unset, .unset]) b0_42_43 rfl ?_
  refine o_newP (n := 5) (cap := 5) (pc' := 45) (own_word hw 15 rfl) rfl (by omega) (by decide) d0_43 (by decide) (by decide) rfl ?_
  intro h18 a18 k18 ea18 na18 X18 F18
  have ne19 : a1 ≠ a18 := Nat.ne_of_lt (by rw [ea18]; exact F16.lt)
  have F20 := F16.ext X18
  have Zx21 := own_zext Zx17 X18
  refine o_blk (pc' := 48) (st' := [(.int (1 : Int32)), (.int (0 : Int32)), (.ref a18), (.ref a18)]) (ls' := #[.val (.int p1), .val (.int (Int32.ofNat t)), .val (.ref a1), .unset, .unset, .unset]) b0_45_48 rfl ?_
  refine o_zast (i := 0) (pc' := 49) F18 rfl (by simp) na18 d0_48 rfl ?_
  intro h22 W22
  have F23 := F20.other W22 ne19
  have F24 := F18.set W22
  have Zx25 := own_zwr Zx21 W22 na18
  refine o_blk (pc' := 52) (st' := [(.int (1 : Int32)), (.int (1 : Int32)), (.ref a18), (.ref a18)]) (ls' := #[.val (.int p1), .val (.int (Int32.ofNat t)), .val (.ref a1), .unset, .unset, .unset]) b0_49_52 rfl ?_
  refine o_zast (i := 1) (pc' := 53) F24 rfl (by simp) na18 d0_52 rfl ?_
  intro h26 W26
  have F27 := F23.other W26 ne19
  have F28 := F24.set W26
  have Zx29 := own_zwr Zx25 W26 na18
  refine o_blk (pc' := 56) (st' := [(.int (0 : Int32)), (.int (2 : Int32)), (.ref a18), (.ref a18)]) (ls' := #[.val (.int p1), .val (.int (Int32.ofNat t)), .val (.ref a1), .unset, .unset, .unset]) b0_53_56 rfl ?_
  refine o_zast (i := 2) (pc' := 57) F28 rfl (by simp) na18 d0_56 rfl ?_
  intro h30 W30
  have F31 := F27.other W30 ne19
  have F32 := F28.set W30
  have Zx33 := own_zwr Zx29 W30 na18
  refine o_blk (pc' := 60) (st' := [(.int (0 : Int32)), (.int (3 : Int32)), (.ref a18), (.ref a18)]) (ls' := #[.val (.int p1), .val (.int (Int32.ofNat t)), .val (.ref a1), .unset, .unset, .unset]) b0_57_60 rfl ?_
  refine o_zast (i := 3) (pc' := 61) F32 rfl (by simp) na18 d0_60 rfl ?_
  intro h34 W34
  have F35 := F31.other W34 ne19
  have F36 := F32.set W34
  have Zx37 := own_zwr Zx33 W34 na18
  refine o_blk (pc' := 64) (st' := [(.int (0 : Int32)), (.int (4 : Int32)), (.ref a18), (.ref a18)]) (ls' := #[.val (.int p1), .val (.int (Int32.ofNat t)), .val (.ref a1), .unset, .unset, .unset]) b0_61_64 rfl ?_
  refine o_zast (i := 4) (pc' := 65) F36 rfl (by simp) na18 d0_64 rfl ?_
  intro h38 W38
  have F39 := F35.other W38 ne19
  have F40 := F36.set W38
  have Zx41 := own_zwr Zx37 W38 na18
  refine o_blk (pc' := 66) (st' := []) (ls' := #[.val (.int p1), .val (.int (Int32.ofNat t)), .val (.ref a1), .val (.ref a18), .unset, .unset]) b0_65_66 rfl ?_
  refine o_blk (pc' := 68) (st' := [(.int (Int32.ofNat t)), (.ref a1)]) (ls' := #[.val (.int p1), .val (.int (Int32.ofNat t)), .val (.ref a1), .val (.ref a18), .unset, .unset]) b0_66_68 rfl ?_
  refine o_aald (i := t) (v := (.ref (A t))) (pc' := 69) F39 rfl rfl (own_sel A t ht) d0_68 rfl ?_
  refine o_blk (pc' := 71) (st' := []) (ls' := #[.val (.int p1), .val (.int (Int32.ofNat t)), .val (.ref a1), .val (.ref a18), .val (.ref (A t)), .unset]) b0_69_71 rfl ?_
  refine o_blk (pc' := 73) (st' := [(.ref (A t))]) (ls' := #[.val (.int p1), .val (.int (Int32.ofNat t)), .val (.ref a1), .val (.ref a18), .val (.ref (A t)), .unset]) b0_71_73 rfl ?_
  refine o_callV (W := 0) (argsL := []) (rest := []) (pc' := 76) (own_word hw 16 rfl) (own_word hw 17 rfl) (own_word hw 19 rfl) (own_word hw 19 rfl) (own_word hw 18 rfl) (own_word hw 20 rfl) (own_word hw 4 rfl) (by decide) ((hen t _ (List.getElem?_eq_getElem ht)).2.1.ext Zx41) (fun hE => rm_sep l Z a0 hw A hen t ht h38 hE) d0_73 pd_0 rfl rfl rfl (Nat.le_of_eq rfl) (by decide) (by decide) (by decide) (by decide) rfl ?_
  rintro _ _ ⟨rfl, rfl⟩ hs42
  refine o_blk (pc' := 78) (st' := []) (ls' := #[.val (.int p1), .val (.int (Int32.ofNat t)), .val (.ref a1), .val (.ref a18), .val (.ref (A t)), .val (.int (if t = 0 ∨ t = 1 then (1 : Int32) else (0 : Int32)))]) b0_76_78 rfl ?_
  refine o_blk (pc' := 82) (st' := [(.int (Int32.ofNat t)), (.ref a18), (.int (if t = 0 ∨ t = 1 then (1 : Int32) else (0 : Int32)))]) (ls' := #[.val (.int p1), .val (.int (Int32.ofNat t)), .val (.ref a1), .val (.ref a18), .val (.ref (A t)), .val (.int (if t = 0 ∨ t = 1 then (1 : Int32) else (0 : Int32)))]) b0_78_82 rfl ?_
  refine o_zald (i := t) (v := (.int (own_exp t))) (pc' := 83) F40 rfl (own_sele t ht) d0_82 rfl ?_
  refine o_icN (pc' := 86) d0_83 rfl (rfl : (if t = 0 ∨ t = 1 then (1 : Int32) else (0 : Int32)) = (own_exp t)) ?_
  refine o_blk (pc' := 88) (st' := [(.int (if t = 0 ∨ t = 1 then (1 : Int32) else (0 : Int32)))]) (ls' := #[.val (.int p1), .val (.int (Int32.ofNat t)), .val (.ref a1), .val (.ref a18), .val (.ref (A t)), .val (.int (if t = 0 ∨ t = 1 then (1 : Int32) else (0 : Int32)))]) b0_86_88 rfl ?_
  refine o_if (pc' := 99) (pc'' := 91) d0_88 (by decide) (by decide) rfl (fun (hc88_43 : (if t = 0 ∨ t = 1 then (1 : Int32) else (0 : Int32)) = 0) => ?_) (fun (hc88_43 : ¬ (if t = 0 ∨ t = 1 then (1 : Int32) else (0 : Int32)) = 0) => ?_)
  ·
    refine o_blk (pc' := 100) (st' := [(.int (1 : Int32))]) (ls' := #[.val (.int p1), .val (.int (Int32.ofNat t)), .val (.ref a1), .val (.ref a18), .val (.ref (A t)), .val (.int (if t = 0 ∨ t = 1 then (1 : Int32) else (0 : Int32)))]) b0_99_100 rfl ?_
    refine o_goto (pc' := 104) d0_100 (by decide) (by decide) ?_
    exact o_retZ (w := 0) d0_104 (by decide) (by decide) rfl (by decide) rfl
  ·
    have hc88_sub : t = 0 ∨ t = 1 := by refine Classical.byContradiction fun q => hc88_43 (if_neg q)
    refine o_blk (pc' := 93) (st' := [(.ref (A t))]) (ls' := #[.val (.int p1), .val (.int (Int32.ofNat t)), .val (.ref a1), .val (.ref a18), .val (.ref (A t)), .val (.int (if t = 0 ∨ t = 1 then (1 : Int32) else (0 : Int32)))]) b0_91_93 rfl ?_
    refine o_callV (W := 0) (argsL := []) (rest := []) (pc' := 96) (own_word hw 22 rfl) (own_word hw 23 rfl) (own_word hw 25 rfl) (own_word hw 25 rfl) (own_word hw 24 rfl) (own_word hw 26 rfl) (own_word hw 4 rfl) (by decide) ((hen t _ (List.getElem?_eq_getElem ht)).2.1.ext Zx41) (fun hE => rm_side l Z a0 hw A hen t ht h38 hE) d0_93 pd_0 rfl rfl rfl (Nat.le_of_eq rfl) (by decide) (by decide) (by decide) (by decide) rfl ?_
    rintro _ _ ⟨rfl, rfl⟩ hs44
    refine o_ifN (pc' := 99) d0_96 rfl (if_neg (by intro q; have := hc88_sub; omega) : (if t = 2 ∨ t = 3 then (1 : Int32) else (0 : Int32)) = 0) ?_
    refine o_blk (pc' := 100) (st' := [(.int (1 : Int32))]) (ls' := #[.val (.int p1), .val (.int (Int32.ofNat t)), .val (.ref a1), .val (.ref a18), .val (.ref (A t)), .val (.int (if t = 0 ∨ t = 1 then (1 : Int32) else (0 : Int32)))]) b0_99_100 rfl ?_
    refine o_goto (pc' := 104) d0_100 (by decide) (by decide) ?_
    exact o_retZ (w := 0) d0_104 (by decide) (by decide) rfl (by decide) rfl
set_option maxRecDepth 65536 in
set_option maxHeartbeats 40000000 in
theorem comes_1 {Post : Tables → Env → Array Value → State → Outcome → State → Prop} (hpost : ∀ tb e args s v u, (limb_1_1.after args s (.returned v) u = true ∧ limb_1_2.after args s (.returned v) u = true ∧ True) → FrameEnd s (.returned v) u (Jvm.fieldLocs frame_1_writes args s ++ Jvm.arrayLocs frame_1_arrays args s ++ Jvm.staticLocs frame_1_statics s) 16 128 → Post tb e args s (.returned v) u) :
    ArmFor flags0 classFile x code maxLocals ret World_1 tables_1 room_1 Calls_1 rest_1 Pre_1 Post := by
  intro l hfl _ _ p e ha hc hk s m args below hf hA hF happ hP
  obtain ⟨hcalls, hrest, hpre⟩ := hP
  obtain ⟨-, -, -, hnamed, -, -, -, hat⟩ := (Spec.applies_iff hf).mp happ
  obtain ⟨hg, hn⟩ := and_e (Cond.before_iff.mp (show (Jvm.Cond.and given_1 narrow_1).before args s = true from hpre))
  obtain ⟨g0, hg⟩ := and_e hg
  have k0 := hg
  obtain ⟨w0, rfl⟩ : ∃ w0 : Value, args = #[w0] := by
    have hs : args.size = 1 := by simpa [Cond.value, given_1] using g0
    obtain ⟨L⟩ := args
    match L, hs with
    | [w0], _ => exact ⟨w0, rfl⟩
  have hw := fun d (hd : d ∈ tables_1) => atoms_spec (ws := Jvm.Cond.code x code maxLocals ret :: tables_1) hat d (List.mem_cons_of_mem _ hd)
  have hfit : Fit s := fun {y c} hc i hi => by
    obtain ⟨ha, rfl⟩ := Array.getElem?_eq_some_iff.mp hc
    have q := List.all_eq_true.mp ((Array.all_eq_true_iff_forall_mem.mp hF) _ (Array.getElem_mem ha)) i (List.mem_range.mpr hi)
    simpa [Array.getElem?_eq_getElem hi] using q
  obtain ⟨i0, e0⟩ := is_v k0
  obtain rfl : w0 = (.int i0) := Option.some.inj e0
  obtain ⟨q_x_UNWRITTEN, hn⟩ := and_e hn
  obtain ⟨q_x_NOTHING, hn⟩ := and_e hn
  obtain ⟨q_x_LEFT, hn⟩ := and_e hn
  obtain ⟨q_x_RIGHT, hn⟩ := and_e hn
  obtain ⟨q_x_ALL_LEFT, hn⟩ := and_e hn
  obtain ⟨q_o_UNWRITTEN, hn⟩ := and_e hn
  obtain ⟨q_o_LEFT, hn⟩ := and_e hn
  obtain ⟨q_o_RIGHT, hn⟩ := and_e hn
  obtain ⟨q_o_NOTHING, hn⟩ := and_e hn
  have q_o_ALL_LEFT := hn
  obtain ⟨c0, hc0⟩ := own_const q_x_UNWRITTEN q_o_UNWRITTEN (own_word hw 4 rfl) (own_word hw 5 rfl)
  obtain ⟨c1, hc1⟩ := own_const q_x_NOTHING q_o_NOTHING (own_word hw 4 rfl) (own_word hw 8 rfl)
  obtain ⟨c2, hc2⟩ := own_const q_x_LEFT q_o_LEFT (own_word hw 4 rfl) (own_word hw 10 rfl)
  obtain ⟨c3, hc3⟩ := own_const q_x_RIGHT q_o_RIGHT (own_word hw 4 rfl) (own_word hw 12 rfl)
  obtain ⟨c4, hc4⟩ := own_const q_x_ALL_LEFT q_o_ALL_LEFT (own_word hw 4 rfl) (own_word hw 14 rfl)
  obtain ⟨A, hA⟩ : ∃ A : Nat → Addr, A = fun i => match i with | 0 => c0 | 1 => c1 | 2 => c2 | 3 => c3 | _ => c4 := ⟨_, rfl⟩
  have hen : OEnum s "com/example/pierspot/pierspot/game/Move$Separation$Kind" "Lcom/example/pierspot/pierspot/game/Move$Separation$Kind;" ["UNWRITTEN", "NOTHING", "LEFT", "RIGHT", "ALL_LEFT"] A := by
    intro i f hf
    subst hA
    rcases i with _ | i
    · cases hf; exact hc0
    rcases i with _ | i
    · cases hf; exact hc1
    rcases i with _ | i
    · cases hf; exact hc2
    rcases i with _ | i
    · cases hf; exact hc3
    rcases i with _ | i
    · cases hf; exact hc4
    · cases hf
  obtain ⟨n, o, h1, h2, h3, _, L, rfl, ⟨⟨rfl, _⟩, N⟩, hq⟩ := rm_law l s _ hw A hen i0 s.heap ⟨Nat.le_refl _, fun _ _ q => q⟩ tables_1 p e ha hc hk s m _ below hf ((Spec.applies_iff_loose hf).mp happ).1 ⟨rfl, State.Warmed39.refl s, rfl⟩ trivial
  refine ⟨n, _, h1, h2, h3, hpost _ _ _ _ _ _ ⟨Cond.after_iff.mpr rfl, Cond.after_iff.mpr (eq_i res_at (Term.int_eval (1)) rfl), trivial⟩ ⟨hq.1, hq.2.1, (hq.2.2.sift fun y hy => Or.inr (N y hy)).mono (by decide) (by decide)⟩⟩
theorem main_1_1 : Claimed_1_1 := comes_1 fun _ _ _ _ _ _ h hF => ⟨h.1, hF⟩
theorem main_1_2 : Claimed_1_2 := comes_1 fun _ _ _ _ _ _ h hF => ⟨h.2.1, hF⟩
end Jvm.Pilot.@@N@@
namespace Jvm.Pilot.@@N@@
open Jvm Jvm.ClassFile Sem Op Lib Jvm.Free Jvm.Stand Jvm.Pilot.@@N@@.Jvm.D
/-! MADE BY PROGRAM (witnessworld.py) out of the Statement's table words and the real class files: 15 classes; the members and pool entries that the words name. The judged class is class 1, her method 1. -/
namespace start1
open Jvm.ClassFile
def u (s : String) : CpInfo := .utf8 (stringToUtf16 s)
/-- a pool by its gaps: so many unusable entries, then the entry; so many at the end -/
def gap : Nat → List CpInfo → List CpInfo
  | 0, r => r
  | n + 1, r => .unusable :: gap n r
def poolList (es : List (Nat × CpInfo)) (last : Nat) : List CpInfo := es.foldr (fun e r => gap e.1 (e.2 :: r)) (gap last [])
def pool (es : List (Nat × CpInfo)) (last : Nat) : Array CpInfo := ⟨poolList es last⟩
def fileOf (pool : Array CpInfo) (this : Nat) (attrs : Array Attribute := #[]) (ms : Array MethodInfo := #[]) (fl : Nat := 33) (sup : Nat := 0) (ifs : Array Nat := #[]) (fds : Array FieldInfo := #[]) : ClassFile where
  minorVersion := 0
  majorVersion := 65
  constantPool := pool
  accessFlags := fl
  thisClass := this
  superClass := sup
  interfaces := ifs
  fields := fds
  methods := ms
  attributes := attrs
def plain (name : String) (sup : Option ClassId) : Class where
  name := name
  kind := .ordinary
  loader := none
  accessFlags := 33
  super := sup
  interfaces := #[]
  cf := none
  fields := #[]
  methods := #[]
  instanceTypes := #[]
  staticTypes := #[]
  resolved := #[]
  callSites := []
  init := .initialized
  statics := none
  mirror := none

def pool0 : Array CpInfo := pool [(5, u "<init>"), (0, u "()V"), (1, .class_ 10), (1, u "java/lang/Object")] 113

def k0m0 : Method := { name := "<init>", desc := "()V", sig := { parameters := [], returnType := none }, accessFlags := 1, code := none }
/-- java/lang/Object -/
def k0 : Class := { plain "java/lang/Object" none with
  accessFlags := 33
  interfaces := #[]
  cf := some (fileOf pool0 8 #[] #[{ accessFlags := 1, nameIndex := 5, descriptorIndex := 6, attributes := #[] }] 33 0 #[] #[])
  fields := #[]
  methods := #[k0m0]
  instanceTypes := #[]
  staticTypes := #[]
  resolved := Array.replicate 124 none
  statics := none }

def pool1 : Array CpInfo := pool [(2, .class_ 4), (1, u "java/lang/Object"), (0, u "<init>"), (0, u "()V"), (0, .integer 2147483647), (0, .class_ 9), (0, u "com/example/pierspot/pierspot/game/Move$Separation$Kind"), (0, .fieldref 8 11), (0, .nameAndType 12 13), (0, u "UNWRITTEN"), (0, u "Lcom/example/pierspot/pierspot/game/Move$Separation$Kind;"), (0, .fieldref 8 15), (0, .nameAndType 16 13), (0, u "NOTHING"), (0, .fieldref 8 18), (0, .nameAndType 19 13), (0, u "LEFT"), (0, .fieldref 8 21), (0, .nameAndType 22 13), (0, u "RIGHT"), (0, .fieldref 8 24), (0, .nameAndType 25 13), (0, u "ALL_LEFT"), (0, .methodref 8 27), (0, .nameAndType 28 29), (0, u "separatesNothing"), (0, u "()Z"), (0, .methodref 8 31), (0, .nameAndType 32 29), (0, u "namesSide"), (0, .class_ 34), (0, u "com/example/pierspot/pierspot/game/KindSeparatesNothingPinLaw"), (2, u "law"), (0, u "(I)Z")] 14

def k1m0 : Method := { name := "<init>", desc := "()V", sig := { parameters := [], returnType := none }, accessFlags := 1, code := none }
def k1c1 : Code := { maxStack := 4, maxLocals := 6, code := code, exceptionTable := #[], attributes := #[] }
def k1m1 : Method := { name := "law", desc := "(I)Z", sig := { parameters := [.int], returnType := some .boolean }, accessFlags := 9, code := some k1c1 }
/-- com/example/pierspot/pierspot/game/KindSeparatesNothingPinLaw -/
def k1 : Class := { plain "com/example/pierspot/pierspot/game/KindSeparatesNothingPinLaw" (some 0) with
  accessFlags := 49
  interfaces := #[]
  cf := some (fileOf pool1 33 #[] #[{ accessFlags := 1, nameIndex := 5, descriptorIndex := 6, attributes := #[] }, { accessFlags := 9, nameIndex := 37, descriptorIndex := 38, attributes := #[] }] 49 2 #[] #[])
  fields := #[]
  methods := #[k1m0, k1m1]
  instanceTypes := #[]
  staticTypes := #[]
  resolved := Array.replicate 53 none
  statics := none }

def pool2 : Array CpInfo := pool [(1, .class_ 2), (0, u "java/lang/constant/Constable"), (0, .class_ 4), (0, u "java/lang/Object")] 6

/-- java/lang/constant/Constable -/
def k2 : Class := { plain "java/lang/constant/Constable" (some 0) with
  accessFlags := 1537
  interfaces := #[]
  cf := some (fileOf pool2 1 #[] #[] 1537 3 #[] #[])
  fields := #[]
  methods := #[]
  instanceTypes := #[]
  staticTypes := #[]
  resolved := Array.replicate 11 none
  statics := none }

def pool3 : Array CpInfo := pool [(1, .class_ 2), (0, u "java/lang/Comparable"), (0, .class_ 4), (0, u "java/lang/Object")] 7

/-- java/lang/Comparable -/
def k3 : Class := { plain "java/lang/Comparable" (some 0) with
  accessFlags := 1537
  interfaces := #[]
  cf := some (fileOf pool3 1 #[] #[] 1537 3 #[] #[])
  fields := #[]
  methods := #[]
  instanceTypes := #[]
  staticTypes := #[]
  resolved := Array.replicate 12 none
  statics := none }

def pool4 : Array CpInfo := pool [(1, .class_ 2), (0, u "java/io/Serializable"), (0, .class_ 4), (0, u "java/lang/Object")] 2

/-- java/io/Serializable -/
def k4 : Class := { plain "java/io/Serializable" (some 0) with
  accessFlags := 1537
  interfaces := #[]
  cf := some (fileOf pool4 1 #[] #[] 1537 3 #[] #[])
  fields := #[]
  methods := #[]
  instanceTypes := #[]
  staticTypes := #[]
  resolved := Array.replicate 7 none
  statics := none }

def pool5 : Array CpInfo := pool [(2, .class_ 4), (1, u "java/lang/Enum"), (0, u "name"), (0, u "Ljava/lang/String;"), (2, u "ordinal"), (0, u "I"), (1, .class_ 14), (1, u "java/lang/Object"), (4, u "hash"), (86, .class_ 108), (1, u "java/lang/Enum$EnumDesc"), (2, .class_ 112), (0, u "java/lang/constant/Constable"), (0, .class_ 114), (0, u "java/lang/Comparable"), (0, .class_ 116), (0, u "java/io/Serializable")] 87

/-- java/lang/Enum -/
def k5 : Class := { plain "java/lang/Enum" (some 0) with
  accessFlags := 1057
  interfaces := #[2, 3, 4]
  cf := some (fileOf pool5 2 #[.nestMembers #[106]] #[] 1057 12 #[111, 113, 115] #[{ accessFlags := 18, nameIndex := 5, descriptorIndex := 6, attributes := #[] }, { accessFlags := 18, nameIndex := 9, descriptorIndex := 10, attributes := #[] }, { accessFlags := 2, nameIndex := 19, descriptorIndex := 10, attributes := #[] }])
  fields := #[{ name := "name", type := (.object "java/lang/String"), accessFlags := 18, slot := 0, constantValue := 0 }, { name := "ordinal", type := .int, accessFlags := 18, slot := 1, constantValue := 0 }, { name := "hash", type := .int, accessFlags := 2, slot := 2, constantValue := 0 }]
  methods := #[]
  instanceTypes := #[(.object "java/lang/String"), .int, .int]
  staticTypes := #[]
  resolved := Array.replicate 204 none
  statics := none }

def pool6 : Array CpInfo := pool [(1, .class_ 2), (0, u "com/example/pierspot/pierspot/game/Move$Separation$Kind"), (0, .fieldref 1 4), (0, .nameAndType 5 6), (0, u "UNWRITTEN"), (0, u "Lcom/example/pierspot/pierspot/game/Move$Separation$Kind;"), (0, .fieldref 1 8), (0, .nameAndType 9 6), (0, u "NOTHING"), (0, .fieldref 1 11), (0, .nameAndType 12 6), (0, u "LEFT"), (0, .fieldref 1 14), (0, .nameAndType 15 6), (0, u "RIGHT"), (2, u "ALL_LEFT"), (2, u "$VALUES"), (0, u "[Lcom/example/pierspot/pierspot/game/Move$Separation$Kind;"), (6, .class_ 31), (1, u "java/lang/Enum"), (23, u "namesSide"), (0, u "()Z"), (1, u "separatesNothing"), (7, .class_ 67), (0, u "com/example/pierspot/pierspot/game/Move")] 5

def k6c0 : Code := { maxStack := 2, maxLocals := 1, code := prog_11_method_4_code, exceptionTable := #[], attributes := #[] }
def k6m0 : Method := { name := "namesSide", desc := "()Z", sig := { parameters := [], returnType := some .boolean }, accessFlags := 1, code := some k6c0 }
def k6c1 : Code := { maxStack := 2, maxLocals := 1, code := prog_11_method_5_code, exceptionTable := #[], attributes := #[] }
def k6m1 : Method := { name := "separatesNothing", desc := "()Z", sig := { parameters := [], returnType := some .boolean }, accessFlags := 0, code := some k6c1 }
/-- com/example/pierspot/pierspot/game/Move$Separation$Kind -/
def k6 : Class := { plain "com/example/pierspot/pierspot/game/Move$Separation$Kind" (some 5) with
  accessFlags := 16433
  interfaces := #[]
  cf := some (fileOf pool6 1 #[.nestHost 66] #[{ accessFlags := 1, nameIndex := 55, descriptorIndex := 56, attributes := #[] }, { accessFlags := 0, nameIndex := 58, descriptorIndex := 56, attributes := #[] }] 16433 29 #[] #[{ accessFlags := 16409, nameIndex := 5, descriptorIndex := 6, attributes := #[] }, { accessFlags := 16409, nameIndex := 9, descriptorIndex := 6, attributes := #[] }, { accessFlags := 16409, nameIndex := 12, descriptorIndex := 6, attributes := #[] }, { accessFlags := 16409, nameIndex := 15, descriptorIndex := 6, attributes := #[] }, { accessFlags := 16409, nameIndex := 18, descriptorIndex := 6, attributes := #[] }, { accessFlags := 4122, nameIndex := 21, descriptorIndex := 22, attributes := #[] }])
  fields := #[{ name := "UNWRITTEN", type := (.object "com/example/pierspot/pierspot/game/Move$Separation$Kind"), accessFlags := 16409, slot := 0, constantValue := 0 }, { name := "NOTHING", type := (.object "com/example/pierspot/pierspot/game/Move$Separation$Kind"), accessFlags := 16409, slot := 1, constantValue := 0 }, { name := "LEFT", type := (.object "com/example/pierspot/pierspot/game/Move$Separation$Kind"), accessFlags := 16409, slot := 2, constantValue := 0 }, { name := "RIGHT", type := (.object "com/example/pierspot/pierspot/game/Move$Separation$Kind"), accessFlags := 16409, slot := 3, constantValue := 0 }, { name := "ALL_LEFT", type := (.object "com/example/pierspot/pierspot/game/Move$Separation$Kind"), accessFlags := 16409, slot := 4, constantValue := 0 }, { name := "$VALUES", type := (.array (.object "com/example/pierspot/pierspot/game/Move$Separation$Kind")), accessFlags := 4122, slot := 5, constantValue := 0 }]
  methods := #[k6m0, k6m1]
  instanceTypes := #[(.object "java/lang/String"), .int, .int]
  staticTypes := #[(.object "com/example/pierspot/pierspot/game/Move$Separation$Kind"), (.object "com/example/pierspot/pierspot/game/Move$Separation$Kind"), (.object "com/example/pierspot/pierspot/game/Move$Separation$Kind"), (.object "com/example/pierspot/pierspot/game/Move$Separation$Kind"), (.object "com/example/pierspot/pierspot/game/Move$Separation$Kind"), (.array (.object "com/example/pierspot/pierspot/game/Move$Separation$Kind"))]
  resolved := Array.replicate 73 none
  statics := some 0 }

def pool7 : Array CpInfo := pool [(1, u "java/lang/Cloneable"), (0, .class_ 1), (0, u "java/lang/Object"), (0, .class_ 3)] 3

/-- java/lang/Cloneable -/
def k7 : Class := { plain "java/lang/Cloneable" (some 0) with
  accessFlags := 1537
  interfaces := #[]
  cf := some (fileOf pool7 2 #[] #[] 1537 4 #[] #[])
  fields := #[]
  methods := #[]
  instanceTypes := #[]
  staticTypes := #[]
  resolved := Array.replicate 8 none
  statics := none }

/-- the primitive boolean -/
def k8 : Class := { plain "boolean" none with kind := .primitive 'Z', accessFlags := 0x411 }
/-- [Z -/
def k9 : Class := { plain "[Z" (some 0) with kind := .array 8 .boolean, interfaces := #[7, 4], accessFlags := 1041 }

/-- the primitive byte -/
def k10 : Class := { plain "byte" none with kind := .primitive 'B', accessFlags := 0x411 }
/-- [B -/
def k11 : Class := { plain "[B" (some 0) with kind := .array 10 .byte, interfaces := #[7, 4], accessFlags := 1041 }

/-- the primitive int -/
def k12 : Class := { plain "int" none with kind := .primitive 'I', accessFlags := 0x411 }
/-- [I -/
def k13 : Class := { plain "[I" (some 0) with kind := .array 12 .int, interfaces := #[7, 4], accessFlags := 1041 }

/-- [Lcom/example/pierspot/pierspot/game/Move$Separation$Kind; -/
def k14 : Class := { plain "[Lcom/example/pierspot/pierspot/game/Move$Separation$Kind;" (some 0) with kind := .array 6 (.object "com/example/pierspot/pierspot/game/Move$Separation$Kind"), interfaces := #[7, 4], accessFlags := 1041 }

def heap : Heap := #[{ cls := 6, slots := #[.ref 1, .ref 2, .ref 3, .ref 4, .ref 5, .null], vm := .statics 6 },
  { cls := 6, slots := #[.null, .int 0, .int 0], vm := .none },
  { cls := 6, slots := #[.null, .int 1, .int 0], vm := .none },
  { cls := 6, slots := #[.null, .int 2, .int 0], vm := .none },
  { cls := 6, slots := #[.null, .int 3, .int 0], vm := .none },
  { cls := 6, slots := #[.null, .int 4, .int 0], vm := .none }]
def classes : Array Class := #[k0, k1, k2, k3, k4, k5, k6, k7, k8, k9, k10, k11, k12, k13, k14]
def interned : List (Array UInt16 × Addr) := []
def slotsUsed : Nat := 21
def theMethod : MethodId := ⟨1, 1⟩
def args0 : Array Value := #[.int 5]
def aboutOver (below : List Frame) : State where
  vm := { classes := classes, interned := interned.toArray }
  heap := heap
  slotsUsed := slotsUsed
  threads := #[{ frames := .invoking theMethod args0 :: below }]
def below0 : List Frame := [.native { method := ⟨0, 0⟩, args := #[] }]
def about1 : State := aboutOver below0
def p0 : Program := .bare "" "" ""
def e0 : Env := launch0.env 0 0 0
theorem w_frames : about1.frames = Frame.invoking theMethod args0 :: below0 := rfl
set_option maxRecDepth 65536 in
theorem w_args : argsFit about1.vm theMethod args0 = true := by decide +kernel
set_option maxRecDepth 65536 in
theorem w_heap : heapFits about1 = true := by decide +kernel
set_option maxRecDepth 65536 in
theorem w_runnable : about1.curStatus? = some .runnable := by decide +kernel
set_option maxRecDepth 65536 in
theorem w_alone : about1.alone = true := by decide +kernel
set_option maxRecDepth 65536 in
theorem w_named : about1.methodNamed? x = some theMethod := by decide +kernel
set_option maxRecDepth 65536 in
theorem w_hears : about1.hears theMethod below0 = true := by decide +kernel
set_option maxRecDepth 65536 in
theorem w_ripe : about1.ripe theMethod args0 below0 = true := by decide +kernel
theorem w_running : about1.status = .running := rfl
set_option maxRecDepth 65536 in
theorem w_room : about1.hasRoom e0.platform room_1 = true :=
  launch0.hasRoom_least _ room_1 (by decide +kernel) (by decide +kernel) (by decide +kernel) (by decide +kernel) (by decide +kernel) (by decide +kernel)
theorem allAtoms_all (ts : List Jvm.Cond) (a : Array Jvm.Value) (st : Jvm.State) : (allAtoms ts).before a st = ts.all (fun c => c.before a st) := by
  induction ts with
  | nil => rfl
  | cons c t ih =>
    show (Jvm.Cond.and c (allAtoms t)).before a st = _
    rw [Jvm.Cond.before_and, ih, List.all_cons]
def words1 : List Jvm.Cond := Jvm.Cond.code x code maxLocals ret :: tables_1
/-- a 'code' word, met by the world's own term for the bytes: nothing is compared byte by byte -/
theorem code_word {y : MethodName} {bytes : ByteArray} {mx : Nat} {rt : Option FieldType} {a : Array Value} {s : State} {m : MethodId} {meth : Method} {c : Code} (h1 : s.methodNamed? y = some m) (h2 : s.vm.method? m = some meth) (h3 : meth.code = some c) (h4 : c.code = bytes)
    (h5 : (c.maxLocals == mx && c.exceptionTable.isEmpty && decide (c.maxStack ≤ mostOperands) && decide (meth.sig.returnType = rt) && !meth.locks && decide (parseMethodDescriptor y.desc = some meth.sig)) = true) : (Jvm.Cond.code y bytes mx rt).before a s = true := by
  simp only [Bool.and_eq_true, beq_iff_eq, Bool.not_eq_true', decide_eq_true_eq] at h5
  obtain ⟨⟨⟨⟨⟨g1, g2⟩, g3⟩, g4⟩, g5⟩, g6⟩ := h5
  simp [Cond.before, Cond.holds, Cond.value, h1, h2, h3, h4, g1, g2, g3, g4, g5, g6]
def isCode : Jvm.Cond → Bool
  | .code _ _ _ _ => true
  | _ => false
theorem all_split {L : List Jvm.Cond} {P : Jvm.Cond → Bool} (h1 : L.all (fun c => isCode c || P c) = true) (h2 : ∀ c ∈ L.filter isCode, P c = true) : L.all P = true := by
  refine List.all_eq_true.mpr fun c hc => ?_
  have h := List.all_eq_true.mp h1 c hc
  rcases Bool.eq_false_or_eq_true (isCode c) with hi | hi
  · exact h2 c (List.mem_filter.mpr ⟨hc, hi⟩)
  · simpa [hi] using h
set_option maxRecDepth 65536 in
theorem w_c0 : (Jvm.Cond.code x code maxLocals ret).before args0 about1 = true := code_word (m := ⟨1, 1⟩) (meth := k1m1) (c := k1c1) (by decide +kernel) rfl rfl rfl (by decide +kernel)
set_option maxRecDepth 65536 in
theorem w_c1 : (Jvm.Cond.code ({ cls := "com/example/pierspot/pierspot/game/Move$Separation$Kind", name := "separatesNothing", desc := "()Z" } : Jvm.MethodName) prog_11_method_5_code (1 : Nat) (Option.some Jvm.ClassFile.FieldType.boolean)).before args0 about1 = true := code_word (m := ⟨6, 1⟩) (meth := k6m1) (c := k6c1) (by decide +kernel) rfl rfl rfl (by decide +kernel)
set_option maxRecDepth 65536 in
theorem w_c2 : (Jvm.Cond.code ({ cls := "com/example/pierspot/pierspot/game/Move$Separation$Kind", name := "namesSide", desc := "()Z" } : Jvm.MethodName) prog_11_method_4_code (1 : Nat) (Option.some Jvm.ClassFile.FieldType.boolean)).before args0 about1 = true := code_word (m := ⟨6, 0⟩) (meth := k6m0) (c := k6c0) (by decide +kernel) rfl rfl rfl (by decide +kernel)
def codes1 : List Jvm.Cond := [Jvm.Cond.code x code maxLocals ret, Jvm.Cond.code ({ cls := "com/example/pierspot/pierspot/game/Move$Separation$Kind", name := "separatesNothing", desc := "()Z" } : Jvm.MethodName) prog_11_method_5_code (1 : Nat) (Option.some Jvm.ClassFile.FieldType.boolean), Jvm.Cond.code ({ cls := "com/example/pierspot/pierspot/game/Move$Separation$Kind", name := "namesSide", desc := "()Z" } : Jvm.MethodName) prog_11_method_4_code (1 : Nat) (Option.some Jvm.ClassFile.FieldType.boolean)]
set_option maxRecDepth 65536 in
theorem codes_eq : words1.filter isCode = codes1 := rfl
theorem w_codes : ∀ c ∈ words1.filter isCode, c.before args0 about1 = true := by
  rw [codes_eq]
  intro c hc
  simp only [codes1, List.mem_cons, List.not_mem_nil, or_false] at hc
  rcases hc with rfl | rfl | rfl
  · exact w_c0
  · exact w_c1
  · exact w_c2
set_option maxRecDepth 65536 in
theorem w_t1 : (words1.take 24).all (fun c => isCode c || c.before args0 about1) = true := by decide +kernel
set_option maxRecDepth 65536 in
theorem w_t2 : (words1.drop 24).all (fun c => isCode c || c.before args0 about1) = true := by decide +kernel
theorem w_tables : (allAtoms (Jvm.Cond.code x code maxLocals ret :: tables_1)).before args0 about1 = true := by
  rw [allAtoms_all]
  show words1.all (fun c => c.before args0 about1) = true
  refine all_split ?_ w_codes
  rw [← List.take_append_drop 24 words1, List.all_append, w_t1, w_t2]
  rfl
set_option maxRecDepth 65536 in
theorem w_case : (Jvm.Cond.and given_1 narrow_1).before args0 about1 = true := by decide +kernel
theorem w_applies : (headSpec (Jvm.Cond.code x code maxLocals ret :: tables_1) room_1).applies x e0.platform about1 = true :=
  (Spec.applies_iff w_frames).mpr ⟨w_running, w_runnable, w_alone, w_named, w_hears, w_ripe, w_room, w_tables⟩
theorem atStart : AtStart classFile x code maxLocals ret World_1 tables_1 room_1 Calls_1 rest_1 Pre_1 launch0 p0 e0 about1 theMethod args0 below0 :=
  ⟨lists_1, trivial, launch0.admits_env _ _ _, launch0.least_env, fairChoices_fair.cas, fairChoices_fair.clock, w_frames, w_args, w_heap, w_applies, trivial, trivial, w_case⟩
end start1
theorem witness_1 : WitnessClaimed_1 := ⟨start1.p0, start1.e0, start1.about1, start1.theMethod, start1.args0, start1.below0, start1.atStart⟩
end Jvm.Pilot.@@N@@
