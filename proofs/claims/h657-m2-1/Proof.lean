import JvmDerived
import JvmDerived.Pilot.@@N@@Statement
import JvmDerived.Pilot.@@N@@Code
set_option linter.unusedVariables false
set_option linter.unusedSimpArgs false
namespace Jvm.Pilot.@@N@@
open Jvm Jvm.ClassFile Sem Op Lib Jvm.Free Jvm.Stand Jvm.LawKit Jvm.RoadKit Bundle Jvm.Pilot.@@N@@.Jvm.D
section OwnKit
variable {p : Program} {l : Launch} {e : Env} {R : Room} {s : State} {m : MethodId} {args : Array Value} {below : List Frame} {meth : Method} {c : Code} {T : State} {locs : List Loc} {cells slots kc ks : Nat} {Z : State} {a0 : Array Value} {own nm : String} {bytes : ByteArray} {ml : Nat} {ret : Option FieldType} {Q : Option Value → Heap → Prop} {h h' : Heap} {pc pc' : Nat} {ls ls' : Array Slot} {st st' rest : List Value}
/-- what is left to show where the run stands at S -/
def OGoal (p : Program) (e : Env) (below : List Frame) (s : State) (kc ks n0 : Nat) (Q : Option Value → Heap → Prop) (S : State) : Prop :=
  ∃ s₂ o, Steps p.tables e below S s₂ ∧ s₂.status = .running ∧ Ended s₂ below o ∧ ∃ v L, o = .returned v ∧ ((Q v s₂.heap ∧ s.heap.size ≤ s₂.heap.size) ∧ Fr n0 L) ∧ FrameEnd s o s₂ L kc ks
theorem OGoal.via {n0 : Nat} {S S' : State} (hs : ∀ t, Steps p.tables e below S' t → Steps p.tables e below S t) (g : OGoal p e below s kc ks n0 Q S') : OGoal p e below s kc ks n0 Q S := by
  obtain ⟨s2, o, h1, r⟩ := g
  exact ⟨s2, o, hs _ h1, r⟩
/-- what holds throughout a body -/
def OCtx (p : Program) (s : State) (m : MethodId) (meth : Method) (c : Code) (Z : State) (own nm : String) (bytes : ByteArray) (ml : Nat) (ret : Option FieldType) : Prop :=
  p.tables.exec = Jvm.exec ∧ Z.Warmed39 s.vm ∧ s.vm.findClass own = some m.cls ∧ c.code = bytes ∧ c.maxLocals = ml ∧ meth.sig.returnType = ret ∧ meth.locks = false ∧ meth.name = nm ∧ Ext Z.heap s.heap
/-- from every state with the heap h whose top frame is g the body comes to its end -/
def OG (p : Program) (l : Launch) (e : Env) (R : Room) (s : State) (m : MethodId) (args : Array Value) (below : List Frame) (meth : Method) (c : Code) (Z : State) (own nm : String) (bytes : ByteArray) (ml : Nat) (ret : Option FieldType) (Q : Option Value → Heap → Prop) (kc ks : Nat) (h : Heap) (cells slots : Nat) (g : JFrame) : Prop :=
  OCtx p s m meth c Z own nm bytes ml ret → ∀ T locs, Stand p l e R s m args below meth c T locs cells slots → T.heap = h → Fr Z.heap.size locs → OGoal p e below s kc ks Z.heap.size Q (T.setTop g)
theorem own_ext (X : Stand p l e R s m args below meth c T locs cells slots) (E : Ext Z.heap s.heap) (N : Fr Z.heap.size locs) : Ext Z.heap T.heap := by
  have q := X.same
  refine ⟨Nat.le_trans E.1 q.2.1, fun a cl hc => ?_⟩
  obtain ⟨c', h1, h2, h3, h4⟩ := q.2.2.2.2.2 a cl (E.2 a cl hc)
  have ha : a < Z.heap.size := (Array.getElem?_eq_some_iff.mp hc).1
  have e1 : c'.slots = cl.slots := Array.ext_getElem? fun i => h4 i fun hm => absurd (N _ hm) (Nat.not_le.mpr ha)
  rw [e1] at h2
  have e2 : c' = cl := h2
  rw [← e2]
  exact h1
/-- the contract of a body, at its arguments and heap -/
def OCtr (l : Launch) (Z : State) (y : MethodName) (yb : ByteArray) (yl : Nat) (yr : Option FieldType) (rm : Room) (as' : Array Value) (h0 : Heap) (yQ : Option Value → Heap → Prop) : Prop :=
  ∀ ws : List Jvm.Cond, MetFree l y (head1 (Jvm.Cond.code y yb yl yr :: ws) rm) (fun a U => a = as' ∧ Z.Warmed39 U.vm ∧ U.heap = h0) (fun _ _ _ _ _ => True) (fun _ U o U' => ∃ v L, o = .returned v ∧ ((yQ v U'.heap ∧ h0.size ≤ U'.heap.size) ∧ Fr Z.heap.size L) ∧ FrameEnd U o U' L rm.cells rm.slots)
theorem o_body {y : MethodName} {yb : ByteArray} {yl : Nat} {yr : Option FieldType} {rm : Room} {as' : Array Value} {h0 : Heap} {yQ : Option Value → Heap → Prop} {ls0 : Array Slot} (hpl : plainFor y = true) (hE : Ext Z.heap h0)
    (hef : ∀ m : MethodId, entryFrame m as' yl = mkF m 0 ls0 [])
    (k : ∀ (p : Program) (e : Env) (s : State) (m : MethodId) (below : List Frame) (meth : Method) (c : Code), OG p l e rm s m as' below meth c Z y.cls y.name yb yl yr yQ rm.cells rm.slots h0 0 0 (mkF m 0 ls0 [])) : OCtr l Z y yb yl yr rm as' h0 yQ := by
  intro ws
  refine MetFree.of_bodySF hpl hisR ?_
  intro p e s m args below meth c s₁ Bd hml0 hP hK
  obtain ⟨rfl, hZ, hh⟩ := hP
  have X0 : Stand p l e rm s m args below meth c s₁ [] 0 0 := Stand.of_body Bd
  have e0 : s₁.heap = h0 := by rw [← hh, Bd.state]; rfl
  have g := k p e s m below meth c ⟨Bd.exec, hZ, findClass_of_methodNamed Bd.named, Bd.bytes, hml0, Bd.returns, Bd.notSynchronized, (name_of_methodNamed Bd.named Bd.method).1, by rw [hh]; exact hE⟩ s₁ [] X0 e0 (Fr.nil _)
  rw [hef]
  rw [← hh]
  exact g
/-- a single step that leaves the heap -/
theorem o_pure {n : Nat} {i : Instr} (hd : decode bytes pc = .ok (i, n)) (hs : ∀ (T : State) (locs : List Loc), Stand p l e R s m args below meth c T locs cells slots → p.tables.exec = Jvm.exec → decode c.code pc = .ok (i, n) → ∀ t, Steps p.tables e below (T.setTop (mkF m pc' ls' st')) t → Steps p.tables e below (T.setTop (mkF m pc ls st)) t)
    (k : OG p l e R s m args below meth c Z own nm bytes ml ret Q kc ks h cells slots (mkF m pc' ls' st')) : OG p l e R s m args below meth c Z own nm bytes ml ret Q kc ks h cells slots (mkF m pc ls st) := by
  intro C T locs X eT N
  exact OGoal.via (hs T locs X C.1 (hb C.2.2.2.1 hd)) (k C T locs X eT N)
/-! pure instructions, as one function -/
def oBI (f : Int32 → Int32 → Int32) (st : List Value) (ls : Array Slot) : Option (List Value × Array Slot) :=
  match st with
  | .int y :: .int x :: r => some (.int (f x y) :: r, ls)
  | _ => none
def oBL (f : Int64 → Int64 → Int64) (st : List Value) (ls : Array Slot) : Option (List Value × Array Slot) :=
  match st with
  | .long y :: .long x :: r => some (.long (f x y) :: r, ls)
  | _ => none
def oBLI (f : Int64 → Int32 → Int64) (st : List Value) (ls : Array Slot) : Option (List Value × Array Slot) :=
  match st with
  | .int y :: .long x :: r => some (.long (f x y) :: r, ls)
  | _ => none
def oUI (f : Int32 → Int32) (st : List Value) (ls : Array Slot) : Option (List Value × Array Slot) :=
  match st with
  | .int x :: r => some (.int (f x) :: r, ls)
  | _ => none
def oLdI (k : Nat) (st : List Value) (ls : Array Slot) : Option (List Value × Array Slot) :=
  match ls[k]? with
  | some (.val (.int v)) => some (.int v :: st, ls)
  | _ => none
def oLdL (k : Nat) (st : List Value) (ls : Array Slot) : Option (List Value × Array Slot) :=
  match ls[k]? with
  | some (.val (.long v)) => some (.long v :: st, ls)
  | _ => none
def oLdA (k : Nat) (st : List Value) (ls : Array Slot) : Option (List Value × Array Slot) :=
  match ls[k]? with
  | some (.val (.ref v)) => some (.ref v :: st, ls)
  | some (.val .null) => some (.null :: st, ls)
  | _ => none
def oStI (k : Nat) (st : List Value) (ls : Array Slot) : Option (List Value × Array Slot) :=
  match st with
  | .int v :: r => (storeLocals ls k (.int v)).map fun l' => (r, l')
  | _ => none
def oStL (k : Nat) (st : List Value) (ls : Array Slot) : Option (List Value × Array Slot) :=
  match st with
  | .long v :: r => (storeLocals ls k (.long v)).map fun l' => (r, l')
  | _ => none
def oStA (k : Nat) (st : List Value) (ls : Array Slot) : Option (List Value × Array Slot) :=
  match st with
  | .ref v :: r => (storeLocals ls k (.ref v)).map fun l' => (r, l')
  | .null :: r => (storeLocals ls k .null).map fun l' => (r, l')
  | _ => none
def oInc (k : Nat) (q : Int) (st : List Value) (ls : Array Slot) : Option (List Value × Array Slot) :=
  match ls[k]? with
  | some (.val (.int v)) => (storeLocals ls k (.int (v + Int32.ofInt q))).map fun l' => (st, l')
  | _ => none
def oI2L (st : List Value) (ls : Array Slot) : Option (List Value × Array Slot) :=
  match st with
  | .int x :: r => some (.long x.toInt64 :: r, ls)
  | _ => none
def oL2I (st : List Value) (ls : Array Slot) : Option (List Value × Array Slot) :=
  match st with
  | .long x :: r => some (.int x.toInt32 :: r, ls)
  | _ => none
def oCmp (st : List Value) (ls : Array Slot) : Option (List Value × Array Slot) :=
  match st with
  | .long y :: .long x :: r => some (.int (XT.cmpL x y) :: r, ls)
  | _ => none
def oDup (st : List Value) (ls : Array Slot) : Option (List Value × Array Slot) :=
  match st with
  | .int x :: r => some (.int x :: .int x :: r, ls)
  | .ref x :: r => some (.ref x :: .ref x :: r, ls)
  | _ => none
def oPop (st : List Value) (ls : Array Slot) : Option (List Value × Array Slot) :=
  match st with
  | .int _ :: r => some (r, ls)
  | .ref _ :: r => some (r, ls)
  | .null :: r => some (r, ls)
  | _ => none
def oLen : Instr → Nat
  | .iload _ | .lload _ | .aload _ | .istore _ | .lstore _ | .astore _ | .bipush _ => 2
  | .sipush _ | .iinc _ _ => 3
  | _ => 1
def opS (i : Instr) (st : List Value) (ls : Array Slot) : Option (List Value × Array Slot) :=
  match i with
  | .iconst k => some (.int (Int32.ofInt k) :: st, ls)
  | .bipush k => some (.int (Int8.ofInt k).toInt32 :: st, ls)
  | .sipush k => some (.int (Int16.ofInt k).toInt32 :: st, ls)
  | .lconst k => some (.long (Int64.ofNat k) :: st, ls)
  | .aconst_null => some (.null :: st, ls)
  | .iload k => oLdI k st ls
  | .iload_n k => oLdI k.val st ls
  | .lload k => oLdL k st ls
  | .lload_n k => oLdL k.val st ls
  | .aload k => oLdA k st ls
  | .aload_n k => oLdA k.val st ls
  | .istore k => oStI k st ls
  | .istore_n k => oStI k.val st ls
  | .lstore k => oStL k st ls
  | .lstore_n k => oStL k.val st ls
  | .astore k => oStA k st ls
  | .astore_n k => oStA k.val st ls
  | .iinc k q => oInc k q st ls
  | .iadd => oBI (fun x y => x + y) st ls
  | .isub => oBI (fun x y => x - y) st ls
  | .imul => oBI (fun x y => x * y) st ls
  | .iand => oBI (fun x y => x &&& y) st ls
  | .ior => oBI (fun x y => x ||| y) st ls
  | .ixor => oBI (fun x y => x ^^^ y) st ls
  | .ishl => oBI (fun x y => x <<< (y &&& 31)) st ls
  | .ishr => oBI (fun x y => x >>> (y &&& 31)) st ls
  | .iushr => oBI (fun x y => XT.ushr x y) st ls
  | .ladd => oBL (fun x y => x + y) st ls
  | .lsub => oBL (fun x y => x - y) st ls
  | .lmul => oBL (fun x y => x * y) st ls
  | .land => oBL (fun x y => x &&& y) st ls
  | .lor => oBL (fun x y => x ||| y) st ls
  | .lxor => oBL (fun x y => x ^^^ y) st ls
  | .lshl => oBLI (fun x y => x <<< (y.toInt64 &&& 63)) st ls
  | .lshr => oBLI (fun x y => x >>> (y.toInt64 &&& 63)) st ls
  | .lushr => oBLI (fun x y => XT.ushrL x y) st ls
  | .i2b => oUI (fun x => x.toInt8.toInt32) st ls
  | .i2c => oUI (fun x => x.toUInt32.toUInt16.toUInt32.toInt32) st ls
  | .i2s => oUI (fun x => x.toInt16.toInt32) st ls
  | .ineg => oUI (fun x => -x) st ls
  | .i2l => oI2L st ls
  | .l2i => oL2I st ls
  | .lcmp => oCmp st ls
  | .dup => oDup st ls
  | .pop => oPop st ls
  | _ => none
/-- the instructions from pc on, one behind the other; what stands behind them -/
def oBlk (code : ByteArray) : Nat → List Instr → Option Nat
  | pc, [] => some pc
  | pc, i :: is => if decode code pc = .ok (i, oLen i) then oBlk code (pc + oLen i) is else none
def oRun : List Instr → List Value → Array Slot → Option (List Value × Array Slot)
  | [], st, ls => some (st, ls)
  | i :: is, st, ls => match opS i st ls with
    | some (st', ls') => oRun is st' ls'
    | none => none
theorem oBI_inv {f : Int32 → Int32 → Int32} {r : List Value × Array Slot} (q : oBI f st ls = some r) : ∃ x y t, st = .int y :: .int x :: t ∧ r = (.int (f x y) :: t, ls) := by
  unfold oBI at q
  split at q
  · exact ⟨_, _, _, rfl, (Option.some.inj q).symm⟩
  · cases q
theorem oBL_inv {f : Int64 → Int64 → Int64} {r : List Value × Array Slot} (q : oBL f st ls = some r) : ∃ x y t, st = .long y :: .long x :: t ∧ r = (.long (f x y) :: t, ls) := by
  unfold oBL at q
  split at q
  · exact ⟨_, _, _, rfl, (Option.some.inj q).symm⟩
  · cases q
theorem oBLI_inv {f : Int64 → Int32 → Int64} {r : List Value × Array Slot} (q : oBLI f st ls = some r) : ∃ x y t, st = .int y :: .long x :: t ∧ r = (.long (f x y) :: t, ls) := by
  unfold oBLI at q
  split at q
  · exact ⟨_, _, _, rfl, (Option.some.inj q).symm⟩
  · cases q
theorem oUI_inv {f : Int32 → Int32} {r : List Value × Array Slot} (q : oUI f st ls = some r) : ∃ x t, st = .int x :: t ∧ r = (.int (f x) :: t, ls) := by
  unfold oUI at q
  split at q
  · exact ⟨_, _, rfl, (Option.some.inj q).symm⟩
  · cases q
theorem oLdI_inv {k : Nat} {r : List Value × Array Slot} (q : oLdI k st ls = some r) : ∃ v, ls[k]? = some (.val (.int v)) ∧ r = (.int v :: st, ls) := by
  unfold oLdI at q
  split at q
  · next v hv => exact ⟨v, hv, (Option.some.inj q).symm⟩
  · cases q
theorem oLdL_inv {k : Nat} {r : List Value × Array Slot} (q : oLdL k st ls = some r) : ∃ v, ls[k]? = some (.val (.long v)) ∧ r = (.long v :: st, ls) := by
  unfold oLdL at q
  split at q
  · next v hv => exact ⟨v, hv, (Option.some.inj q).symm⟩
  · cases q
theorem oLdA_inv {k : Nat} {r : List Value × Array Slot} (q : oLdA k st ls = some r) : ∃ v, ls[k]? = some (.val v) ∧ v.isRef = true ∧ r = (v :: st, ls) := by
  unfold oLdA at q
  split at q
  · next v hv => exact ⟨.ref v, hv, rfl, (Option.some.inj q).symm⟩
  · next hv => exact ⟨.null, hv, rfl, (Option.some.inj q).symm⟩
  · cases q
theorem own_map {o : Option (Array Slot)} {t : List Value} {r : List Value × Array Slot} (q : o.map (fun l' => (t, l')) = some r) : ∃ l', o = some l' ∧ r = (t, l') := by
  cases o with
  | none => cases q
  | some l' => exact ⟨l', rfl, (Option.some.inj q).symm⟩
theorem oStI_inv {k : Nat} {r : List Value × Array Slot} (q : oStI k st ls = some r) : ∃ v t l', st = .int v :: t ∧ storeLocals ls k (.int v) = some l' ∧ r = (t, l') := by
  unfold oStI at q
  split at q
  · obtain ⟨l', h1, h2⟩ := own_map q; exact ⟨_, _, l', rfl, h1, h2⟩
  · cases q
theorem oStL_inv {k : Nat} {r : List Value × Array Slot} (q : oStL k st ls = some r) : ∃ v t l', st = .long v :: t ∧ storeLocals ls k (.long v) = some l' ∧ r = (t, l') := by
  unfold oStL at q
  split at q
  · obtain ⟨l', h1, h2⟩ := own_map q; exact ⟨_, _, l', rfl, h1, h2⟩
  · cases q
theorem oStA_inv {k : Nat} {r : List Value × Array Slot} (q : oStA k st ls = some r) : ∃ v t l', st = v :: t ∧ v.isRef = true ∧ storeLocals ls k v = some l' ∧ r = (t, l') := by
  unfold oStA at q
  split at q
  · obtain ⟨l', h1, h2⟩ := own_map q; exact ⟨_, _, l', rfl, rfl, h1, h2⟩
  · obtain ⟨l', h1, h2⟩ := own_map q; exact ⟨_, _, l', rfl, rfl, h1, h2⟩
  · cases q
theorem oInc_inv {k : Nat} {z : Int} {r : List Value × Array Slot} (q : oInc k z st ls = some r) : ∃ v l', ls[k]? = some (.val (.int v)) ∧ storeLocals ls k (.int (v + Int32.ofInt z)) = some l' ∧ r = (st, l') := by
  unfold oInc at q
  split at q
  · next v hv => obtain ⟨l', h1, h2⟩ := own_map q; exact ⟨v, l', hv, h1, h2⟩
  · cases q
theorem oI2L_inv {r : List Value × Array Slot} (q : oI2L st ls = some r) : ∃ x t, st = .int x :: t ∧ r = (.long x.toInt64 :: t, ls) := by
  unfold oI2L at q
  split at q
  · exact ⟨_, _, rfl, (Option.some.inj q).symm⟩
  · cases q
theorem oL2I_inv {r : List Value × Array Slot} (q : oL2I st ls = some r) : ∃ x t, st = .long x :: t ∧ r = (.int x.toInt32 :: t, ls) := by
  unfold oL2I at q
  split at q
  · exact ⟨_, _, rfl, (Option.some.inj q).symm⟩
  · cases q
theorem oCmp_inv {r : List Value × Array Slot} (q : oCmp st ls = some r) : ∃ x y t, st = .long y :: .long x :: t ∧ r = (.int (XT.cmpL x y) :: t, ls) := by
  unfold oCmp at q
  split at q
  · exact ⟨_, _, _, rfl, (Option.some.inj q).symm⟩
  · cases q
theorem oDup_inv {r : List Value × Array Slot} (q : oDup st ls = some r) : ∃ x t, st = x :: t ∧ x.category = 1 ∧ r = (x :: x :: t, ls) := by
  unfold oDup at q
  split at q
  · exact ⟨_, _, rfl, rfl, (Option.some.inj q).symm⟩
  · exact ⟨_, _, rfl, rfl, (Option.some.inj q).symm⟩
  · cases q
theorem oPop_inv {r : List Value × Array Slot} (q : oPop st ls = some r) : ∃ x t, st = x :: t ∧ x.category = 1 ∧ r = (t, ls) := by
  unfold oPop at q
  split at q
  · exact ⟨_, _, rfl, rfl, (Option.some.inj q).symm⟩
  · exact ⟨_, _, rfl, rfl, (Option.some.inj q).symm⟩
  · exact ⟨_, _, rfl, rfl, (Option.some.inj q).symm⟩
  · cases q
theorem o_op {i : Instr} (hd : decode bytes pc = .ok (i, oLen i)) (q : opS i st ls = some (st', ls'))
    (k : OG p l e R s m args below meth c Z own nm bytes ml ret Q kc ks h cells slots (mkF m (pc + oLen i) ls' st')) : OG p l e R s m args below meth c Z own nm bytes ml ret Q kc ks h cells slots (mkF m pc ls st) := by
  refine o_pure hd (fun T locs X hx hd t kk => ?_) k
  cases i with
  | iconst z => cases q; exact XS.iconst X.here hx rfl hd kk
  | bipush z => cases q; exact XS.bipush X.here hx rfl hd kk
  | sipush z => cases q; exact XS.sipush X.here hx rfl hd kk
  | lconst z => cases q; exact XT.lconst X.here hx rfl hd kk
  | aconst_null => cases q; exact XS.aconstNull X.here hx rfl hd kk
  | iload z => obtain ⟨v, h1, h3⟩ := oLdI_inv q; cases h3; exact XS.iload X.here hx rfl hd h1 kk
  | iload_n z => obtain ⟨v, h1, h3⟩ := oLdI_inv q; cases h3; exact XS.iloadN X.here hx rfl hd h1 kk
  | lload z => obtain ⟨v, h1, h3⟩ := oLdL_inv q; cases h3; exact XT.lload X.here hx rfl hd h1 kk
  | lload_n z => obtain ⟨v, h1, h3⟩ := oLdL_inv q; cases h3; exact XT.lloadN X.here hx rfl hd h1 kk
  | aload z => obtain ⟨v, h1, h2, h3⟩ := oLdA_inv q; cases h3; exact XS.aload X.here hx rfl hd h1 h2 kk
  | aload_n z => obtain ⟨v, h1, h2, h3⟩ := oLdA_inv q; cases h3; exact XS.aloadN X.here hx rfl hd h1 h2 kk
  | istore z => obtain ⟨v, r, l', rfl, h2, h3⟩ := oStI_inv q; cases h3; exact XS.istore X.here hx rfl hd rfl h2 kk
  | istore_n z => obtain ⟨v, r, l', rfl, h2, h3⟩ := oStI_inv q; cases h3; exact XS.istoreN X.here hx rfl hd rfl h2 kk
  | lstore z => obtain ⟨v, r, l', rfl, h2, h3⟩ := oStL_inv q; cases h3; exact XT.lstore X.here hx rfl hd rfl h2 kk
  | lstore_n z => obtain ⟨v, r, l', rfl, h2, h3⟩ := oStL_inv q; cases h3; exact XT.lstoreN X.here hx rfl hd rfl h2 kk
  | astore z => obtain ⟨v, r, l', rfl, h1, h2, h3⟩ := oStA_inv q; cases h3; exact XS.astore X.here hx rfl hd rfl h1 h2 kk
  | astore_n z => obtain ⟨v, r, l', rfl, h1, h2, h3⟩ := oStA_inv q; cases h3; exact XS.astoreN X.here hx rfl hd rfl h1 h2 kk
  | iinc z y => obtain ⟨v, l', h1, h2, h3⟩ := oInc_inv q; cases h3; exact XS.iinc X.here hx rfl hd h1 h2 kk
  | iadd => obtain ⟨x, y, r, rfl, h3⟩ := oBI_inv q; cases h3; exact XS.iadd X.here hx rfl hd rfl kk
  | isub => obtain ⟨x, y, r, rfl, h3⟩ := oBI_inv q; cases h3; exact XS.isub X.here hx rfl hd rfl kk
  | imul => obtain ⟨x, y, r, rfl, h3⟩ := oBI_inv q; cases h3; exact XS.imul X.here hx rfl hd rfl kk
  | iand => obtain ⟨x, y, r, rfl, h3⟩ := oBI_inv q; cases h3; exact XS.iand X.here hx rfl hd rfl kk
  | ior => obtain ⟨x, y, r, rfl, h3⟩ := oBI_inv q; cases h3; exact XT.ior X.here hx rfl hd rfl kk
  | ixor => obtain ⟨x, y, r, rfl, h3⟩ := oBI_inv q; cases h3; exact XT.ixor X.here hx rfl hd rfl kk
  | ishl => obtain ⟨x, y, r, rfl, h3⟩ := oBI_inv q; cases h3; exact XT.ishl X.here hx rfl hd rfl kk
  | ishr => obtain ⟨x, y, r, rfl, h3⟩ := oBI_inv q; cases h3; exact XT.ishr X.here hx rfl hd rfl kk
  | iushr => obtain ⟨x, y, r, rfl, h3⟩ := oBI_inv q; cases h3; exact XT.iushr X.here hx rfl hd rfl kk
  | ladd => obtain ⟨x, y, r, rfl, h3⟩ := oBL_inv q; cases h3; exact XT.ladd X.here hx rfl hd rfl kk
  | lsub => obtain ⟨x, y, r, rfl, h3⟩ := oBL_inv q; cases h3; exact XT.lsub X.here hx rfl hd rfl kk
  | lmul => obtain ⟨x, y, r, rfl, h3⟩ := oBL_inv q; cases h3; exact XT.lmul X.here hx rfl hd rfl kk
  | land => obtain ⟨x, y, r, rfl, h3⟩ := oBL_inv q; cases h3; exact XT.land X.here hx rfl hd rfl kk
  | lor => obtain ⟨x, y, r, rfl, h3⟩ := oBL_inv q; cases h3; exact XT.lor X.here hx rfl hd rfl kk
  | lxor => obtain ⟨x, y, r, rfl, h3⟩ := oBL_inv q; cases h3; exact XT.lxor X.here hx rfl hd rfl kk
  | lshl => obtain ⟨x, y, r, rfl, h3⟩ := oBLI_inv q; cases h3; exact XT.lshl X.here hx rfl hd rfl kk
  | lshr => obtain ⟨x, y, r, rfl, h3⟩ := oBLI_inv q; cases h3; exact XT.lshr X.here hx rfl hd rfl kk
  | lushr => obtain ⟨x, y, r, rfl, h3⟩ := oBLI_inv q; cases h3; exact XT.lushr X.here hx rfl hd rfl kk
  | i2b => obtain ⟨x, r, rfl, h3⟩ := oUI_inv q; cases h3; exact XT.i2b X.here hx rfl hd rfl kk
  | i2c => obtain ⟨x, r, rfl, h3⟩ := oUI_inv q; cases h3; exact XT.i2c X.here hx rfl hd rfl kk
  | i2s => obtain ⟨x, r, rfl, h3⟩ := oUI_inv q; cases h3; exact XT.i2s X.here hx rfl hd rfl kk
  | ineg => obtain ⟨x, r, rfl, h3⟩ := oUI_inv q; cases h3; exact XS.ineg X.here hx rfl hd rfl kk
  | i2l => obtain ⟨x, r, rfl, h3⟩ := oI2L_inv q; cases h3; exact XT.i2l X.here hx rfl hd rfl kk
  | l2i => obtain ⟨x, r, rfl, h3⟩ := oL2I_inv q; cases h3; exact XT.l2i X.here hx rfl hd rfl kk
  | lcmp => obtain ⟨x, y, r, rfl, h3⟩ := oCmp_inv q; cases h3; exact XT.lcmp X.here hx rfl hd rfl kk
  | dup => obtain ⟨x, r, rfl, hc, h3⟩ := oDup_inv q; cases h3; exact XS.dup X.here hx rfl hd rfl hc kk
  | pop => obtain ⟨x, r, rfl, hc, h3⟩ := oPop_inv q; cases h3; exact XT.pop X.here hx rfl hd rfl hc kk
  | _ => cases q
theorem o_blk : ∀ {is : List Instr} {pc : Nat} {st : List Value} {ls : Array Slot}, oBlk bytes pc is = some pc' → oRun is st ls = some (st', ls') →
    OG p l e R s m args below meth c Z own nm bytes ml ret Q kc ks h cells slots (mkF m pc' ls' st') → OG p l e R s m args below meth c Z own nm bytes ml ret Q kc ks h cells slots (mkF m pc ls st)
  | [], pc, st, ls, hb, hr, k => by
    cases hb; cases hr; exact k
  | i :: is, pc, st, ls, hb, hr, k => by
    unfold oBlk at hb
    split at hb
    · next hd =>
      unfold oRun at hr
      split at hr
      · next st1 ls1 hq => exact o_op hd hq (o_blk hb hr k)
      · cases hr
    · cases hb
/-! branches -/
def oC : ClassFile.Cond → Int32 → Int32 → Prop
  | .eq, x, y => x = y
  | .ne, x, y => ¬ x = y
  | .lt, x, y => x < y
  | .ge, x, y => ¬ x < y
  | .gt, x, y => y < x
  | .le, x, y => ¬ y < x
def oCn : ClassFile.Cond → Int32 → Int32 → Prop
  | .eq, x, y => ¬ x = y
  | .ne, x, y => x = y
  | .lt, x, y => ¬ x < y
  | .ge, x, y => x < y
  | .gt, x, y => ¬ y < x
  | .le, x, y => y < x
theorem oC_yes {cd : ClassFile.Cond} {x y : Int32} (q : oC cd x y) : if_icmp.holds cd x y = true := by
  cases cd
  · exact (teq q).1
  · exact (feq q).2
  · exact (tlt q).1
  · exact (flt q).2.1
  · exact (tlt q).2.2.1
  · exact (flt q).2.2.2
theorem oC_no {cd : ClassFile.Cond} {x y : Int32} (q : oCn cd x y) : if_icmp.holds cd x y = false := by
  cases cd
  · exact (feq q).1
  · exact (teq q).2
  · exact (flt q).1
  · exact (tlt q).2.1
  · exact (flt q).2.2.1
  · exact (tlt q).2.2.2
theorem oC_or (cd : ClassFile.Cond) (x y : Int32) : oC cd x y ∨ oCn cd x y := by
  cases cd
  · exact Classical.em _
  · exact (Classical.em (x = y)).symm
  · exact Classical.em _
  · exact (Classical.em (x < y)).symm
  · exact Classical.em _
  · exact (Classical.em (y < x)).symm
theorem o_ifY {cd : ClassFile.Cond} {o : Int} {x : Int32} (hd : decode bytes pc = .ok (.ifCond cd o, 3)) (ho : 0 ≤ (pc : Int) + o) (hp : ((pc : Int) + o).toNat = pc') (hc : oC cd x 0)
    (k : OG p l e R s m args below meth c Z own nm bytes ml ret Q kc ks h cells slots (mkF m pc' ls rest)) : OG p l e R s m args below meth c Z own nm bytes ml ret Q kc ks h cells slots (mkF m pc ls (.int x :: rest)) :=
  o_pure hd (fun T locs X hx hd t kk => XS.ifYes X.here hx rfl (pc0 := pc) rfl hd rfl (by rw [if0]; exact oC_yes hc) ho hp kk) k
theorem o_ifN {cd : ClassFile.Cond} {o : Int} {x : Int32} (hd : decode bytes pc = .ok (.ifCond cd o, 3)) (hp : pc + 3 = pc') (hc : oCn cd x 0)
    (k : OG p l e R s m args below meth c Z own nm bytes ml ret Q kc ks h cells slots (mkF m pc' ls rest)) : OG p l e R s m args below meth c Z own nm bytes ml ret Q kc ks h cells slots (mkF m pc ls (.int x :: rest)) :=
  o_pure hd (fun T locs X hx hd t kk => XS.ifNo X.here hx rfl hd rfl (by rw [if0]; exact oC_no hc) (by subst hp; exact kk)) k
theorem o_if {cd : ClassFile.Cond} {o : Int} {x : Int32} {pc'' : Nat} (hd : decode bytes pc = .ok (.ifCond cd o, 3)) (ho : 0 ≤ (pc : Int) + o) (hp : ((pc : Int) + o).toNat = pc') (hp' : pc + 3 = pc'')
    (ky : oC cd x 0 → OG p l e R s m args below meth c Z own nm bytes ml ret Q kc ks h cells slots (mkF m pc' ls rest)) (kn : oCn cd x 0 → OG p l e R s m args below meth c Z own nm bytes ml ret Q kc ks h cells slots (mkF m pc'' ls rest)) : OG p l e R s m args below meth c Z own nm bytes ml ret Q kc ks h cells slots (mkF m pc ls (.int x :: rest)) :=
  (oC_or cd x 0).elim (fun q => o_ifY hd ho hp q (ky q)) (fun q => o_ifN hd hp' q (kn q))
theorem o_icY {cd : ClassFile.Cond} {o : Int} {x y : Int32} (hd : decode bytes pc = .ok (.if_icmp cd o, 3)) (ho : 0 ≤ (pc : Int) + o) (hp : ((pc : Int) + o).toNat = pc') (hc : oC cd x y)
    (k : OG p l e R s m args below meth c Z own nm bytes ml ret Q kc ks h cells slots (mkF m pc' ls rest)) : OG p l e R s m args below meth c Z own nm bytes ml ret Q kc ks h cells slots (mkF m pc ls (.int y :: .int x :: rest)) :=
  o_pure hd (fun T locs X hx hd t kk => XS.icmpYes X.here hx rfl (pc0 := pc) rfl hd rfl (oC_yes hc) ho hp kk) k
theorem o_icN {cd : ClassFile.Cond} {o : Int} {x y : Int32} (hd : decode bytes pc = .ok (.if_icmp cd o, 3)) (hp : pc + 3 = pc') (hc : oCn cd x y)
    (k : OG p l e R s m args below meth c Z own nm bytes ml ret Q kc ks h cells slots (mkF m pc' ls rest)) : OG p l e R s m args below meth c Z own nm bytes ml ret Q kc ks h cells slots (mkF m pc ls (.int y :: .int x :: rest)) :=
  o_pure hd (fun T locs X hx hd t kk => XS.icmpNo X.here hx rfl hd rfl (oC_no hc) (by subst hp; exact kk)) k
theorem o_ic {cd : ClassFile.Cond} {o : Int} {x y : Int32} {pc'' : Nat} (hd : decode bytes pc = .ok (.if_icmp cd o, 3)) (ho : 0 ≤ (pc : Int) + o) (hp : ((pc : Int) + o).toNat = pc') (hp' : pc + 3 = pc'')
    (ky : oC cd x y → OG p l e R s m args below meth c Z own nm bytes ml ret Q kc ks h cells slots (mkF m pc' ls rest)) (kn : oCn cd x y → OG p l e R s m args below meth c Z own nm bytes ml ret Q kc ks h cells slots (mkF m pc'' ls rest)) : OG p l e R s m args below meth c Z own nm bytes ml ret Q kc ks h cells slots (mkF m pc ls (.int y :: .int x :: rest)) :=
  (oC_or cd x y).elim (fun q => o_icY hd ho hp q (ky q)) (fun q => o_icN hd hp' q (kn q))
def oA : ClassFile.ACond → Value → Value → Prop
  | .eq, x, y => x = y
  | .ne, x, y => ¬ x = y
def oAn : ClassFile.ACond → Value → Value → Prop
  | .eq, x, y => ¬ x = y
  | .ne, x, y => x = y
theorem o_acY {cd : ClassFile.ACond} {o : Int} {x y : Value} (hd : decode bytes pc = .ok (.if_acmp cd o, 3)) (hx' : x.isRef = true) (hy' : y.isRef = true) (ho : 0 ≤ (pc : Int) + o) (hp : ((pc : Int) + o).toNat = pc') (hc : oA cd x y)
    (k : OG p l e R s m args below meth c Z own nm bytes ml ret Q kc ks h cells slots (mkF m pc' ls rest)) : OG p l e R s m args below meth c Z own nm bytes ml ret Q kc ks h cells slots (mkF m pc ls (y :: x :: rest)) :=
  o_pure hd (fun T locs X hx hd t kk => XT.acmpYes X.here hx rfl (pc0 := pc) rfl hd rfl hx' hy' (by cases cd <;> exact decide_eq_true hc) ho hp kk) k
theorem o_acN {cd : ClassFile.ACond} {o : Int} {x y : Value} (hd : decode bytes pc = .ok (.if_acmp cd o, 3)) (hx' : x.isRef = true) (hy' : y.isRef = true) (hp : pc + 3 = pc') (hc : oAn cd x y)
    (k : OG p l e R s m args below meth c Z own nm bytes ml ret Q kc ks h cells slots (mkF m pc' ls rest)) : OG p l e R s m args below meth c Z own nm bytes ml ret Q kc ks h cells slots (mkF m pc ls (y :: x :: rest)) :=
  o_pure hd (fun T locs X hx hd t kk => XT.acmpNo X.here hx rfl hd rfl hx' hy' (by cases cd <;> first | exact decide_eq_false hc | exact decide_eq_false (fun q => q hc)) (by subst hp; exact kk)) k
theorem o_goto {o : Int} (hd : decode bytes pc = .ok (.goto o, 3)) (ho : 0 ≤ (pc : Int) + o) (hp : ((pc : Int) + o).toNat = pc')
    (k : OG p l e R s m args below meth c Z own nm bytes ml ret Q kc ks h cells slots (mkF m pc' ls st)) : OG p l e R s m args below meth c Z own nm bytes ml ret Q kc ks h cells slots (mkF m pc ls st) :=
  o_pure hd (fun T locs X hx hd t kk => XS.goto X.here hx rfl (pc0 := pc) rfl hd ho hp kk) k
theorem o_irem {x y : Int32} (hd : decode bytes pc = .ok (.irem, 1)) (hy : y ≠ 0) (hp : pc + 1 = pc')
    (k : OG p l e R s m args below meth c Z own nm bytes ml ret Q kc ks h cells slots (mkF m pc' ls (.int (x % y) :: rest))) : OG p l e R s m args below meth c Z own nm bytes ml ret Q kc ks h cells slots (mkF m pc ls (.int y :: .int x :: rest)) :=
  o_pure hd (fun T locs X hx hd t kk => iremM X hx rfl hd rfl hy (by subst hp; exact kk)) k
theorem o_idiv {x y : Int32} (hd : decode bytes pc = .ok (.idiv, 1)) (hy : y ≠ 0) (hp : pc + 1 = pc')
    (k : OG p l e R s m args below meth c Z own nm bytes ml ret Q kc ks h cells slots (mkF m pc' ls (.int (x / y) :: rest))) : OG p l e R s m args below meth c Z own nm bytes ml ret Q kc ks h cells slots (mkF m pc ls (.int y :: .int x :: rest)) :=
  o_pure hd (fun T locs X hx hd t kk => XS.idiv X.here hx rfl hd rfl hy (by subst hp; exact kk)) k
/-! constants, statics -/
theorem o_ldc {index : Nat} {v : Int32} (w : (Cond.constant own index v).before a0 Z = true) (hd : decode bytes pc = .ok (.ldc index, 2)) (hp : pc + 2 = pc')
    (k : OG p l e R s m args below meth c Z own nm bytes ml ret Q kc ks h cells slots (mkF m pc' ls (.int v :: st))) : OG p l e R s m args below meth c Z own nm bytes ml ret Q kc ks h cells slots (mkF m pc ls st) := by
  intro C T locs X eT N
  refine OGoal.via (fun t kk => X.ldcInt C.1 C.2.2.1 (mvT C.2.1 w) (g := mkF m pc ls st) rfl (hb C.2.2.2.1 hd) t ?_) (k C T locs X eT N)
  subst hp
  exact kk
theorem o_ldc2 {index : Nat} {v : Int64} (w : (Cond.constantLong own index v).before a0 Z = true) (hd : decode bytes pc = .ok (.ldc2_w index, 3)) (hp : pc + 3 = pc')
    (k : OG p l e R s m args below meth c Z own nm bytes ml ret Q kc ks h cells slots (mkF m pc' ls (.long v :: st))) : OG p l e R s m args below meth c Z own nm bytes ml ret Q kc ks h cells slots (mkF m pc ls st) := by
  intro C T locs X eT N
  refine OGoal.via (fun t kk => X.ldc2Long C.1 C.2.2.1 (mvT C.2.1 w) (g := mkF m pc ls st) rfl (hb C.2.2.2.1 hd) t ?_) (k C T locs X eT N)
  subst hp
  exact kk
theorem o_getS {O n d : String} {index : Nat} {v : Value} (w : (Cond.fieldLink own index O n d).before a0 Z = true) (F : Sta Z Z.heap O n d v) (hd : decode bytes pc = .ok (.getstatic index, 3)) (hp : pc + 3 = pc')
    (k : OG p l e R s m args below meth c Z own nm bytes ml ret Q kc ks h cells slots (mkF m pc' ls (v :: st))) : OG p l e R s m args below meth c Z own nm bytes ml ret Q kc ks h cells slots (mkF m pc ls st) := by
  intro C T locs X eT N
  obtain ⟨T', X', e', stp⟩ := getS (host := "") X C.1 C.2.1 C.2.2.1 w Via.refl eT (F.ext (eT ▸ own_ext X C.2.2.2.2.2.2.2.2 N)) (g := mkF m pc ls st) rfl (hb C.2.2.2.1 hd)
  subst hp
  exact OGoal.via stp (k C T' locs X' e' N)
/-! returns -/
theorem own_end {v : Option Value} {S : State} (X : Stand p l e R s m args below meth c T locs cells slots) (hlk : meth.locks = false) (hv : meth.sig.returnType = none → v = none) (hc : cells ≤ kc) (hs : slots ≤ ks) (N : Fr Z.heap.size locs) (eT : T.heap = h) (hq : Q v h)
    (stp : ∀ fs, (∀ (f : JFrame) (acts : List Action), f.method = m → f.locked = none → f.entered = [] → (doReturn e (T.setTop f) acts v).1 = T.setFrames fs) → Steps p.tables e below S (T.setFrames fs)) : OGoal p e below s kc ks Z.heap.size Q S := by
  obtain ⟨fs, hr, hrun, hended, hW, hsame⟩ := X.leave (v := v) hv hlk
  exact ⟨_, _, stp fs hr, hrun, hended, v, locs, rfl, ⟨⟨by rw [show (T.setFrames fs).heap = h from eT]; exact hq, X.same.2.1⟩, N⟩, ⟨v, rfl⟩, hW, hsame.mono hc hs⟩
theorem o_retI {z : Int32} (hd : decode bytes pc = .ok (.ireturn, 1)) (hc : cells ≤ kc) (hs : slots ≤ ks) (hr : ret = some .int) (hq : Q (some (.int z)) h) : OG p l e R s m args below meth c Z own nm bytes ml ret Q kc ks h cells slots (mkF m pc ls (.int z :: rest)) := by
  intro C T locs X eT N
  have hR : meth.sig.returnType = some .int := C.2.2.2.2.2.1.trans hr
  exact own_end X C.2.2.2.2.2.2.1 (fun q => by rw [hR] at q; cases q) hc hs N eT hq (fun fs hl => retOut X C.1 hR rfl (Or.inl ⟨rfl, Or.inl rfl, z, rfl⟩) (hb C.2.2.2.1 hd) hl)
theorem o_retZ {z w : Int32} (hd : decode bytes pc = .ok (.ireturn, 1)) (hc : cells ≤ kc) (hs : slots ≤ ks) (hr : ret = some .boolean) (hz : z = 0 ∨ z = 1) (hq : Q (some (.int z)) h) : OG p l e R s m args below meth c Z own nm bytes ml ret Q kc ks h cells slots (mkF m pc ls (.int z :: rest)) := by
  intro C T locs X eT N
  have hR : meth.sig.returnType = some .boolean := C.2.2.2.2.2.1.trans hr
  have hn : nar .boolean z = z := by rcases hz with rfl | rfl <;> rfl
  exact own_end X C.2.2.2.2.2.2.1 (fun q => by rw [hR] at q; cases q) hc hs N eT hq (fun fs hl => retN X C.1 hR (Or.inl rfl) (hb C.2.2.2.1 hd) (by rw [hn]; exact hl))
theorem o_retL {z : Int64} (hd : decode bytes pc = .ok (.lreturn, 1)) (hc : cells ≤ kc) (hs : slots ≤ ks) (hr : ret = some .long) (hq : Q (some (.long z)) h) : OG p l e R s m args below meth c Z own nm bytes ml ret Q kc ks h cells slots (mkF m pc ls (.long z :: rest)) := by
  intro C T locs X eT N
  have hR : meth.sig.returnType = some .long := C.2.2.2.2.2.1.trans hr
  exact own_end X C.2.2.2.2.2.2.1 (fun q => by rw [hR] at q; cases q) hc hs N eT hq (fun fs hl => retOut X C.1 hR rfl (Or.inr (Or.inl ⟨rfl, rfl, z, rfl⟩)) (hb C.2.2.2.1 hd) hl)
theorem o_retA {w : Value} {t : FieldType} (hd : decode bytes pc = .ok (.areturn, 1)) (hc : cells ≤ kc) (hs : slots ≤ ks) (hr : ret = some t) (ht : t.isReference = true) (hw : w.isRef = true) (hq : Q (some w) h) : OG p l e R s m args below meth c Z own nm bytes ml ret Q kc ks h cells slots (mkF m pc ls (w :: rest)) := by
  intro C T locs X eT N
  have hR : meth.sig.returnType = some t := C.2.2.2.2.2.1.trans hr
  have hn : narrow t w = w := by cases t <;> first | rfl | (cases ht; done)
  exact own_end X C.2.2.2.2.2.2.1 (fun q => by rw [hR] at q; cases q) hc hs N eT hq (fun fs hl => retOut X C.1 hR hn (Or.inr (Or.inr (Or.inr (Or.inr ⟨rfl, ht, hw⟩)))) (hb C.2.2.2.1 hd) hl)
theorem o_retV (hd : decode bytes pc = .ok (.return_, 1)) (hc : cells ≤ kc) (hs : slots ≤ ks) (hr : ret = none) (hq : Q none h) : OG p l e R s m args below meth c Z own nm bytes ml ret Q kc ks h cells slots (mkF m pc ls []) := by
  intro C T locs X eT N
  exact own_end X C.2.2.2.2.2.2.1 (fun _ => rfl) hc hs N eT hq (fun fs hl => X.returnOut C.1 (C.2.2.2.2.2.1.trans hr) (hb C.2.2.2.1 hd) hl)
/-! calls -/
theorem o_callS {index yl W : Nat} {y : MethodName} {yb : ByteArray} {yr : Option FieldType} {rm : Room} {yQ : Option Value → Heap → Prop} {argsL : List Value} {ps : List FieldType} {yr' : Option FieldType}
    (w1 : (Cond.methodLink own index y).before a0 Z = true) (w2 : (Cond.static y).before a0 Z = true) (w3 : (Cond.initialized y.cls).before a0 Z = true) (w4 : (Cond.code y yb yl yr).before a0 Z = true)
    (hy : y.cls ≠ "java/lang/invoke/MethodHandle" ∧ y.cls ≠ "java/lang/invoke/VarHandle") (K : Ext Z.heap h → OCtr l Z y yb yl yr rm argsL.toArray h yQ) (hd : decode bytes pc = .ok (.invokestatic index, 3))
    (hpd : parseMethodDescriptor y.desc = some ⟨ps, yr'⟩) (hpl : argsL.length = ps.length) (hsz : ls.size = ml) (hst : st = argsL.reverse ++ rest) (hW : (rest.map fun v => v.category).sum ≤ W)
    (hf : rm.frames + 1 ≤ R.frames) (hl : W + (yl + 11) + rm.locals ≤ R.locals) (hcc : cells + rm.cells ≤ R.cells) (hss : slots + rm.slots ≤ R.slots) (hp : pc + 3 = pc')
    (k : ∀ v h', yQ v h' → h.size ≤ h'.size → OG p l e R s m args below meth c Z own nm bytes ml ret Q kc ks h' (cells + rm.cells) (slots + rm.slots) (mkF m pc' ls (v.toList ++ rest))) : OG p l e R s m args below meth c Z own nm bytes ml ret Q kc ks h cells slots (mkF m pc ls st) := by
  intro C T locs X eT N
  have hE : Ext Z.heap h := eT ▸ own_ext X C.2.2.2.2.2.2.2.2 N
  obtain ⟨v, vm₁, ⟨T', L', k', n'⟩, -, X', ⟨L, ⟨hQ, hN⟩, e1, e2, e3⟩, stp⟩ := Jvm.LawKit.callS X C.1 (y := y) C.2.2.1 (mvT C.2.1 w1) (mvT C.2.1 w2) (mvT C.2.1 w3) (mvT C.2.1 w4) hy
    (backOf (W := W) (Q := fun v h2 L => (yQ v h2 ∧ h.size ≤ h2.size) ∧ Fr Z.heap.size L) (K hE []) C.2.1 w4 w3 hf hl) (g := mkF m pc ls st) rfl (hsz.trans C.2.2.2.2.1.symm) (argsL := argsL) (rest := rest) (lenOf hpd hpl) hst (by show 2 * 0 + _ ≤ _; rw [Nat.mul_zero, Nat.zero_add]; exact hW) (hb C.2.2.2.1 hd) (fun _ _ => ⟨rfl, eT, hcc, hss⟩)
  dsimp only [Pt.U, Pt.locs, Pt.cells, Pt.slots] at X' e1 e2 e3 hQ stp
  subst e1 e2 e3 hp
  exact OGoal.via stp (k v T'.heap hQ.1 hQ.2 C T' _ X' rfl (Fr.app N hN))
theorem o_callV {index yl W : Nat} {C0 C1 : String} {y z : MethodName} {yb : ByteArray} {yr : Option FieldType} {rm : Room} {yQ : Option Value → Heap → Prop} {a : Addr} {argsL : List Value} {ps : List FieldType} {yr' : Option FieldType}
    (w1 : (Cond.methodLink own index y).before a0 Z = true) (w2 : (Cond.declares y).before a0 Z = true) (w3 : (Cond.selects C0 y z).before a0 Z = true) (wf : (Cond.selects C1 y y).before a0 Z = true) (w4 : (Cond.instanceMethod z).before a0 Z = true) (w5 : (Cond.code z yb yl yr).before a0 Z = true) (w6 : (Cond.initialized z.cls).before a0 Z = true)
    (hy : y.cls ≠ "java/lang/invoke/MethodHandle" ∧ y.cls ≠ "java/lang/invoke/VarHandle") (E : Exa Z h a C0) (K : Ext Z.heap h → OCtr l Z z yb yl yr rm (.ref a :: argsL).toArray h yQ) (hd : decode bytes pc = .ok (.invokevirtual index, 3))
    (hpd : parseMethodDescriptor y.desc = some ⟨ps, yr'⟩) (hpl : argsL.length = ps.length) (hsz : ls.size = ml) (hst : st = argsL.reverse ++ .ref a :: rest) (hW : (rest.map fun v => v.category).sum ≤ W)
    (hf : rm.frames + 1 ≤ R.frames) (hl : W + (yl + 11) + rm.locals ≤ R.locals) (hcc : cells + rm.cells ≤ R.cells) (hss : slots + rm.slots ≤ R.slots) (hp : pc + 3 = pc')
    (k : ∀ v h', yQ v h' → h.size ≤ h'.size → OG p l e R s m args below meth c Z own nm bytes ml ret Q kc ks h' (cells + rm.cells) (slots + rm.slots) (mkF m pc' ls (v.toList ++ rest))) : OG p l e R s m args below meth c Z own nm bytes ml ret Q kc ks h cells slots (mkF m pc ls st) := by
  intro C T locs X eT N
  have hE : Ext Z.heap h := eT ▸ own_ext X C.2.2.2.2.2.2.2.2 N
  obtain ⟨cq, kq, qa, qb, qc⟩ := isOf C.2.1 eT E
  obtain ⟨v, vm₁, ⟨T', L', k', n'⟩, -, X', ⟨L, ⟨hQ, hN⟩, e1, e2, e3⟩, stp⟩ := X.virtualBack C.1 (y := y) (z := z) C.2.2.1 (mvT C.2.1 w1) (mvT C.2.1 w2) (notFace_of_selects (args := #[]) (mvT C.2.1 wf)) (mvT C.2.1 w3) (mvT C.2.1 w4) hy
    (backOf (W := W) (Q := fun v h2 L => (yQ v h2 ∧ h.size ≤ h2.size) ∧ Fr Z.heap.size L) (K hE []) C.2.1 w5 w6 hf hl) qa qc (g := mkF m pc ls st) rfl (hsz.trans C.2.2.2.2.1.symm) (Steps.refl _) (argsL := argsL) (rest := rest) (lenOf hpd hpl) hst (by show 2 * 0 + _ ≤ _; rw [Nat.mul_zero, Nat.zero_add]; exact hW) (hb C.2.2.2.1 hd) (fun _ _ => ⟨rfl, eT, hcc, hss⟩)
  dsimp only [Pt.U, Pt.locs, Pt.cells, Pt.slots] at X' e1 e2 e3 hQ stp
  subst e1 e2 e3 hp
  exact OGoal.via (fun t kk => stp.trans kk) (k v T'.heap hQ.1 hQ.2 C T' _ X' rfl (Fr.app N hN))
theorem o_callI {index yl W : Nat} {y : MethodName} {yb : ByteArray} {rm : Room} {yQ : Option Value → Heap → Prop} {a : Addr} {argsL : List Value} {ps : List FieldType} {yr' : Option FieldType}
    (hyn : y.name = "<init>") (w1 : (Cond.methodLink own index y).before a0 Z = true) (w4 : (Cond.instanceMethod y).before a0 Z = true) (w5 : (Cond.code y yb yl none).before a0 Z = true) (w6 : (Cond.initialized y.cls).before a0 Z = true)
    (hy : y.cls ≠ "java/lang/invoke/MethodHandle" ∧ y.cls ≠ "java/lang/invoke/VarHandle") (K : Ext Z.heap h → OCtr l Z y yb yl none rm (.ref a :: argsL).toArray h yQ) (hd : decode bytes pc = .ok (.invokespecial index, 3))
    (hpd : parseMethodDescriptor y.desc = some ⟨ps, yr'⟩) (hpl : argsL.length = ps.length) (hsz : ls.size = ml) (hst : st = argsL.reverse ++ .ref a :: rest) (hW : (rest.map fun v => v.category).sum ≤ W)
    (hf : rm.frames + 1 ≤ R.frames) (hl : W + (yl + 11) + rm.locals ≤ R.locals) (hcc : cells + rm.cells ≤ R.cells) (hss : slots + rm.slots ≤ R.slots) (hp : pc + 3 = pc')
    (k : ∀ v h', yQ v h' → h.size ≤ h'.size → OG p l e R s m args below meth c Z own nm bytes ml ret Q kc ks h' (cells + rm.cells) (slots + rm.slots) (mkF m pc' ls (v.toList ++ rest))) : OG p l e R s m args below meth c Z own nm bytes ml ret Q kc ks h cells slots (mkF m pc ls st) := by
  intro C T locs X eT N
  have hE : Ext Z.heap h := eT ▸ own_ext X C.2.2.2.2.2.2.2.2 N
  obtain ⟨v, vm₁, ⟨T', L', k', n'⟩, -, X', ⟨L, ⟨hQ, hN⟩, e1, e2, e3⟩, stp⟩ := X.specialBack C.1 (y := y) hyn C.2.2.1 (mvT C.2.1 w1) (mvT C.2.1 w4) (mvT C.2.1 w5) hy
    (backOf (W := W) (Q := fun v h2 L => (yQ v h2 ∧ h.size ≤ h2.size) ∧ Fr Z.heap.size L) (K hE []) C.2.1 w5 w6 hf hl) (g := mkF m pc ls st) rfl (hsz.trans C.2.2.2.2.1.symm) (Steps.refl _) (a := a) (argsL := argsL) (rest := rest) (lenOf hpd hpl) hst (by show 2 * 0 + _ ≤ _; rw [Nat.mul_zero, Nat.zero_add]; exact hW) (hb C.2.2.2.1 hd) (fun _ _ => ⟨rfl, eT, hcc, hss⟩)
  dsimp only [Pt.U, Pt.locs, Pt.cells, Pt.slots] at X' e1 e2 e3 hQ stp
  subst e1 e2 e3 hp
  exact OGoal.via (fun t kk => stp.trans kk) (k v T'.heap hQ.1 hQ.2 C T' _ X' rfl (Fr.app N hN))
theorem o_initO {index W : Nat} {a : Addr} (w1 : (Cond.methodLink own index Lib.objectInit).before a0 Z = true) (w2 : (Cond.instanceMethod Lib.objectInit).before a0 Z = true) (w3 : (Cond.code Lib.objectInit ⟨#[0xb1]⟩ 1 none).before a0 Z = true)
    (hd : decode bytes pc = .ok (.invokespecial index, 3)) (hsz : ls.size = ml) (hW : (rest.map fun v => v.category).sum ≤ W) (hf : 1 ≤ R.frames) (hl : W + 12 ≤ R.locals) (hp : pc + 3 = pc')
    (k : OG p l e R s m args below meth c Z own nm bytes ml ret Q kc ks h cells slots (mkF m pc' ls rest)) : OG p l e R s m args below meth c Z own nm bytes ml ret Q kc ks h cells slots (mkF m pc ls (.ref a :: rest)) := by
  intro C T locs X eT N
  obtain ⟨T', X', e', stp⟩ := initO X C.1 C.2.1 C.2.2.1 w1 w2 w3 eT (g := mkF m pc ls (.ref a :: rest)) rfl (hsz.trans C.2.2.2.2.1.symm) rfl (hb C.2.2.2.1 hd) hf (W := W) (by show 2 * 0 + _ ≤ _; rw [Nat.mul_zero, Nat.zero_add]; exact hW) hl
  subst hp
  exact OGoal.via stp (k C T' locs X' e' N)
/-! objects -/
theorem o_getF {O n d host : String} {index : Nat} {a : Addr} {v : Value} (w : (Cond.fieldLink own index O n d).before a0 Z = true ∨ (Cond.fieldLinkNest own index O n d host).before a0 Z = true) (F : Fld Z h a O n d v) (hd : decode bytes pc = .ok (.getfield index, 3)) (hp : pc + 3 = pc')
    (k : OG p l e R s m args below meth c Z own nm bytes ml ret Q kc ks h cells slots (mkF m pc' ls (v :: rest))) : OG p l e R s m args below meth c Z own nm bytes ml ret Q kc ks h cells slots (mkF m pc ls (.ref a :: rest)) := by
  intro C T locs X eT N
  obtain ⟨T', X', e', stp⟩ := getF X C.1 C.2.1 C.2.2.1 w Via.refl eT F (g := mkF m pc ls (.ref a :: rest)) rfl rfl (hb C.2.2.2.1 hd)
  subst hp
  exact OGoal.via stp (k C T' locs X' e' N)
theorem o_putF {O n d host C0 : String} {index kk : Nat} {ty : FieldType} {a : Addr} {v old : Value} (w : (Cond.fieldLink own index O n d).before a0 Z = true ∨ (Cond.fieldLinkNest own index O n d host).before a0 Z = true) (F : Fld Z h a O n d old) (E : Exa Z h a C0)
    (L : (Cond.lays C0 O n d).before a0 Z = true ∨ ((Cond.laysFinal C0 O n d).before a0 Z = true ∧ own = O ∧ nm = "<init>")) (wi : (Cond.instantiable C0 kk).before a0 Z = true) (hty : parseFieldDescriptor d = some ty) (hn : narrow ty v = v) (hf : fits ty v = true) (ha : Z.heap.size ≤ a)
    (hd : decode bytes pc = .ok (.putfield index, 3)) (hp : pc + 3 = pc')
    (k : ∀ h', Wr h h' a (Jvm.RoadKit.slotOf Z O n d) v → OG p l e R s m args below meth c Z own nm bytes ml ret Q kc ks h' cells slots (mkF m pc' ls rest)) : OG p l e R s m args below meth c Z own nm bytes ml ret Q kc ks h cells slots (mkF m pc ls (v :: .ref a :: rest)) := by
  intro C T locs X eT N
  obtain ⟨T', h', X', e', W', stp⟩ := putF X C.1 C.2.1 C.2.2.1 w Via.refl eT F E (L.imp id fun q => ⟨q.1, q.2.1, C.2.2.2.2.2.2.2.1.trans q.2.2⟩) wi hty hn hf (g := mkF m pc ls (v :: .ref a :: rest)) rfl rfl (hb C.2.2.2.1 hd)
  subst hp
  exact OGoal.via stp (k h' W' C T' _ X' e' (Fr.snoc X' N ha))
theorem o_newO {C0 : String} {index n : Nat} (w : (Cond.classLink own index C0).before a0 Z = true) (wi : (Cond.instantiable C0 n).before a0 Z = true) (wz : (Cond.initialized C0).before a0 Z = true) (hd : decode bytes pc = .ok (.new index, 3)) (hc : cells + 1 ≤ R.cells) (hl : slots + n ≤ R.slots) (hp : pc + 3 = pc')
    (k : ∀ h' a, a = h.size → Z.heap.size ≤ a → Ext h h' → Exa Z h' a C0 → (∀ {O nm d : String} {ty : FieldType}, Laid Z a0 C0 O nm d → parseFieldDescriptor d = some ty → Fld Z h' a O nm d (defaultValue ty)) → OG p l e R s m args below meth c Z own nm bytes ml ret Q kc ks h' (cells + 1) (slots + n) (mkF m pc' ls (.ref a :: st))) : OG p l e R s m args below meth c Z own nm bytes ml ret Q kc ks h cells slots (mkF m pc ls st) := by
  intro C T locs X eT N
  have hE : Ext Z.heap h := eT ▸ own_ext X C.2.2.2.2.2.2.2.2 N
  obtain ⟨T', h', X', e', E', A', D', -, stp⟩ := newO X C.1 C.2.1 C.2.2.1 w wi wz eT (g := mkF m pc ls st) rfl (hb C.2.2.2.1 hd) hc hl
  subst hp
  exact OGoal.via stp (k h' h.size rfl hE.1 E' A' D' C T' _ X' e' N)
theorem own_word {L : List Jvm.Cond} {dc : Jvm.Cond} (hw : ∀ d ∈ L, d.before a0 Z = true) (i : Nat) (q : L[i]? = some dc) : dc.before a0 Z = true := hw _ (List.mem_of_getElem? q)
end OwnKit
section EnumKit
variable {p : Program} {l : Launch} {e : Env} {R : Room} {s : State} {m : MethodId} {args : Array Value} {below : List Frame} {meth : Method} {c : Code} {T : State} {locs : List Loc} {cells slots kc ks : Nat} {Z : State} {a0 : Array Value} {own nm : String} {bytes : ByteArray} {ml : Nat} {ret : Option FieldType} {Q : Option Value → Heap → Prop} {h h' : Heap} {pc pc' : Nat} {ls ls' : Array Slot} {st st' rest : List Value}
/-- the constants of an enum, by their ordinals -/
def OEnum (Z : State) (C D : String) (fs : List String) (A : Nat → Addr) : Prop :=
  ∀ i f, fs[i]? = some f → Sta Z Z.heap C f D (.ref (A i)) ∧ Exa Z Z.heap (A i) C ∧ Fld Z Z.heap (A i) "java/lang/Enum" "ordinal" "I" (.int (Int32.ofNat i))
theorem own_const {C f D : String} {k : Int32} (hx : (Cond.exactly (.static C f D) C).value args s none s [] = some true) (ho : (Cond.eq (.field (.static C f D) "java/lang/Enum" "ordinal" "I") (.int k)).value args s none s [] = some true)
    (wi : (Cond.initialized C).before args s = true) (wl : (Cond.laysStatic C f D).before args s = true) : ∃ a, Sta s s.heap C f D (.ref a) ∧ Exa s s.heap a C ∧ Fld s s.heap a "java/lang/Enum" "ordinal" "I" (.int k) := by
  obtain ⟨a, ev⟩ := exa_v hx
  have e1 := eqv_i (y := k) rfl ho
  rw [fld_at ev] at e1
  exact ⟨a, Sta.start ev (Or.inr ⟨wi, wl⟩), Exa.start ev hx, Fld.start e1⟩
theorem own_nat32 {i : Nat} (hi : i < 100) : (Int32.ofNat i).toInt = i := by
  have : (Int32.ofNat i).toInt = Int.bmod i (2 ^ 32) := Int32.toInt_ofNat'
  rw [this, Int.bmod_def]
  omega
theorem own_tag {i j : Nat} (hi : i < 100) (hj : j < 100) (q : Int32.ofNat i = Int32.ofNat j) : i = j := by
  have h1 := own_nat32 hi
  have h2 := own_nat32 hj
  rw [q] at h1
  omega
theorem OEnum.inj {C D : String} {fs : List String} {A : Nat → Addr} (hen : OEnum Z C D fs A) {i j : Nat} (hl : fs.length < 100) (hi : i < fs.length) (hj : j < fs.length) (q : A i = A j) : i = j := by
  by_cases r : i = j
  · exact r
  · have F := (hen i _ (List.getElem?_eq_getElem hi)).2.2
    have G := (hen j _ (List.getElem?_eq_getElem hj)).2.2
    exact absurd q (Fld.ne F G fun e => r (own_tag (by omega) (by omega) (Value.int.inj e)))
theorem own_pos (x : Int32) : 0 ≤ (x &&& 2147483647).toInt := by
  have h : (x &&& 2147483647).toBitVec.toNat = x.toBitVec.toNat % 2 ^ 31 := by
    rw [Int32.toBitVec_and, BitVec.toNat_and]
    exact Nat.and_two_pow_sub_one_eq_mod _ 31
  have h2 : (x &&& 2147483647).toInt = (x &&& 2147483647).toBitVec.toInt := rfl
  rw [h2, BitVec.toInt_eq_toNat_cond, h]
  split <;> omega
theorem own_mod (x : Int32) {n : Int32} {k : Nat} (hn : n.toInt = k) (hk : 0 < k) (hk2 : k ≤ 100) : ∃ t : Nat, t < k ∧ (x &&& 2147483647) % n = Int32.ofNat t := by
  have h1 := own_pos x
  have h2 : ((x &&& 2147483647) % n).toInt = (x &&& 2147483647).toInt.tmod n.toInt := Int32.toInt_mod _ _
  rw [Int.tmod_eq_emod_of_nonneg h1, hn] at h2
  have h3 := Int.emod_lt_of_pos (x &&& 2147483647).toInt (by omega : (0 : Int) < k)
  have h4 := Int.emod_nonneg (x &&& 2147483647).toInt (by omega : (k : Int) ≠ 0)
  refine ⟨((x &&& 2147483647) % n).toInt.toNat, by omega, Int32.toInt_inj.mp ?_⟩
  rw [own_nat32 (by omega)]
  omega
theorem o_aeq {o : Int} {A : Nat → Addr} {i j pc'' : Nat} (inj : A i = A j → i = j) (hd : decode bytes pc = .ok (.if_acmp .eq o, 3)) (ho : 0 ≤ (pc : Int) + o) (hp : ((pc : Int) + o).toNat = pc') (hp' : pc + 3 = pc'')
    (ky : i = j → OG p l e R s m args below meth c Z own nm bytes ml ret Q kc ks h cells slots (mkF m pc' ls rest)) (kn : ¬ i = j → OG p l e R s m args below meth c Z own nm bytes ml ret Q kc ks h cells slots (mkF m pc'' ls rest)) : OG p l e R s m args below meth c Z own nm bytes ml ret Q kc ks h cells slots (mkF m pc ls (.ref (A j) :: .ref (A i) :: rest)) := by
  by_cases r : i = j
  · exact o_acY hd rfl rfl ho hp (by subst r; exact rfl) (ky r)
  · exact o_acN hd rfl rfl hp' (fun q => r (inj (Value.ref.inj q))) (kn r)
theorem o_ane {o : Int} {A : Nat → Addr} {i j pc'' : Nat} (inj : A i = A j → i = j) (hd : decode bytes pc = .ok (.if_acmp .ne o, 3)) (ho : 0 ≤ (pc : Int) + o) (hp : ((pc : Int) + o).toNat = pc') (hp' : pc + 3 = pc'')
    (ky : ¬ i = j → OG p l e R s m args below meth c Z own nm bytes ml ret Q kc ks h cells slots (mkF m pc' ls rest)) (kn : i = j → OG p l e R s m args below meth c Z own nm bytes ml ret Q kc ks h cells slots (mkF m pc'' ls rest)) : OG p l e R s m args below meth c Z own nm bytes ml ret Q kc ks h cells slots (mkF m pc ls (.ref (A j) :: .ref (A i) :: rest)) := by
  by_cases r : i = j
  · exact o_acN hd rfl rfl hp' (by subst r; exact rfl) (kn r)
  · exact o_acY hd rfl rfl ho hp (fun q => r (inj (Value.ref.inj q))) (ky r)
end EnumKit
def own_and (i j : Nat) : Nat := if i = 1 ∨ j = 1 then 1 else if i = 2 ∨ j = 2 then 2 else 0
def own_or (i j : Nat) : Nat := if i = 0 ∨ j = 0 then 0 else if i = 2 ∨ j = 2 then 2 else 1
def own_not (i : Nat) : Nat := if i = 0 then 1 else if i = 1 then 0 else 2
def own_rank (i : Nat) : Int32 := if i = 1 then 0 else if i = 2 then 1 else 2
theorem own_and_lt {i j : Nat} : own_and i j < 3 := by unfold own_and; split <;> (try split) <;> omega
theorem own_or_lt {i j : Nat} : own_or i j < 3 := by unfold own_or; split <;> (try split) <;> omega
theorem own_not_lt {i : Nat} : own_not i < 3 := by unfold own_not; split <;> (try split) <;> omega
def own_pick (t : Nat) : Nat := if t = 0 then 1 else if t = 1 then 2 else 0
theorem own_pick_lt {t : Nat} : own_pick t < 3 := by unfold own_pick; split <;> (try split) <;> omega
theorem own_m2 : ∀ i < 3, ∀ j < 3, own_rank (own_or (own_pick i) (own_pick j)) = (if Int32.ofNat i < Int32.ofNat j then Int32.ofNat j else Int32.ofNat i) := by decide

theorem b2_0_1 : oBlk prog_43_method_6_code 0 [.aload_n 0] = some 1 := by decide +kernel
theorem d2_1 : decode prog_43_method_6_code 1 = .ok (.getstatic 3, 3) := by decide +kernel
theorem d2_4 : decode prog_43_method_6_code 4 = .ok (.if_acmp .eq 10, 3) := by decide +kernel
theorem d2_14 : decode prog_43_method_6_code 14 = .ok (.getstatic 3, 3) := by decide +kernel
theorem b2_17_18 : oBlk prog_43_method_6_code 17 [.astore_n 2] = some 18 := by decide +kernel
theorem d2_18 : decode prog_43_method_6_code 18 = .ok (.goto 28, 3) := by decide +kernel
theorem b2_46_47 : oBlk prog_43_method_6_code 46 [.aload_n 2] = some 47 := by decide +kernel
theorem d2_47 : decode prog_43_method_6_code 47 = .ok (.areturn, 1) := by decide +kernel
theorem b2_7_8 : oBlk prog_43_method_6_code 7 [.aload_n 1] = some 8 := by decide +kernel
theorem d2_8 : decode prog_43_method_6_code 8 = .ok (.getstatic 3, 3) := by decide +kernel
theorem d2_11 : decode prog_43_method_6_code 11 = .ok (.if_acmp .ne 10, 3) := by decide +kernel
theorem b2_21_22 : oBlk prog_43_method_6_code 21 [.aload_n 0] = some 22 := by decide +kernel
theorem d2_22 : decode prog_43_method_6_code 22 = .ok (.getstatic 10, 3) := by decide +kernel
theorem d2_25 : decode prog_43_method_6_code 25 = .ok (.if_acmp .eq 10, 3) := by decide +kernel
theorem d2_35 : decode prog_43_method_6_code 35 = .ok (.getstatic 10, 3) := by decide +kernel
theorem b2_38_39 : oBlk prog_43_method_6_code 38 [.astore_n 2] = some 39 := by decide +kernel
theorem d2_39 : decode prog_43_method_6_code 39 = .ok (.goto 7, 3) := by decide +kernel
theorem b2_28_29 : oBlk prog_43_method_6_code 28 [.aload_n 1] = some 29 := by decide +kernel
theorem d2_29 : decode prog_43_method_6_code 29 = .ok (.getstatic 10, 3) := by decide +kernel
theorem d2_32 : decode prog_43_method_6_code 32 = .ok (.if_acmp .ne 10, 3) := by decide +kernel
theorem d2_42 : decode prog_43_method_6_code 42 = .ok (.getstatic 7, 3) := by decide +kernel
theorem b2_45_47 : oBlk prog_43_method_6_code 45 [.astore_n 2, .aload_n 2] = some 47 := by decide +kernel
theorem pn_0 : plainName "com/example/contribution/contribution/query/Truth" = true := by first | (simp [plainName, overriddenIn]; done) | decide +kernel
theorem b3_0_1 : oBlk method_3_code 0 [.aload_n 0] = some 1 := by decide +kernel
theorem d3_1 : decode method_3_code 1 = .ok (.getstatic 7, 3) := by decide +kernel
theorem d3_4 : decode method_3_code 4 = .ok (.if_acmp .ne 5, 3) := by decide +kernel
theorem b3_9_10 : oBlk method_3_code 9 [.aload_n 0] = some 10 := by decide +kernel
theorem d3_10 : decode method_3_code 10 = .ok (.getstatic 13, 3) := by decide +kernel
theorem d3_13 : decode method_3_code 13 = .ok (.if_acmp .ne 5, 3) := by decide +kernel
theorem b3_18_19 : oBlk method_3_code 18 [.aload_n 0] = some 19 := by decide +kernel
theorem d3_19 : decode method_3_code 19 = .ok (.getstatic 16, 3) := by decide +kernel
theorem d3_22 : decode method_3_code 22 = .ok (.if_acmp .ne 5, 3) := by decide +kernel
theorem b3_27_28 : oBlk method_3_code 27 [.iconst (-1)] = some 28 := by decide +kernel
theorem d3_28 : decode method_3_code 28 = .ok (.ireturn, 1) := by decide +kernel
theorem b3_25_26 : oBlk method_3_code 25 [.iconst 2] = some 26 := by decide +kernel
theorem d3_26 : decode method_3_code 26 = .ok (.ireturn, 1) := by decide +kernel
theorem b3_16_17 : oBlk method_3_code 16 [.iconst 1] = some 17 := by decide +kernel
theorem d3_17 : decode method_3_code 17 = .ok (.ireturn, 1) := by decide +kernel
theorem b3_7_8 : oBlk method_3_code 7 [.iconst 0] = some 8 := by decide +kernel
theorem d3_8 : decode method_3_code 8 = .ok (.ireturn, 1) := by decide +kernel
theorem pn_1 : plainName "com/example/contribution/contribution/query/TruthOrPinLaw" = true := by first | (simp [plainName, overriddenIn]; done) | decide +kernel
theorem b4_0_2 : oBlk jdk_29_method_65_code 0 [.iload_n 0, .iload_n 1] = some 2 := by decide +kernel
theorem d4_2 : decode jdk_29_method_65_code 2 = .ok (.if_icmp .lt 7, 3) := by decide +kernel
theorem b4_9_10 : oBlk jdk_29_method_65_code 9 [.iload_n 1] = some 10 := by decide +kernel
theorem d4_10 : decode jdk_29_method_65_code 10 = .ok (.ireturn, 1) := by decide +kernel
theorem b4_5_6 : oBlk jdk_29_method_65_code 5 [.iload_n 0] = some 6 := by decide +kernel
theorem d4_6 : decode jdk_29_method_65_code 6 = .ok (.goto 4, 3) := by decide +kernel
theorem b1_0_1 : oBlk method_2_code 0 [.iload_n 0] = some 1 := by decide +kernel
theorem d1_1 : decode method_2_code 1 = .ok (.ifCond .ne 7, 3) := by decide +kernel
theorem b1_8_10 : oBlk method_2_code 8 [.iload_n 0, .iconst 1] = some 10 := by decide +kernel
theorem d1_10 : decode method_2_code 10 = .ok (.if_icmp .ne 7, 3) := by decide +kernel
theorem d1_17 : decode method_2_code 17 = .ok (.getstatic 16, 3) := by decide +kernel
theorem d1_20 : decode method_2_code 20 = .ok (.areturn, 1) := by decide +kernel
theorem d1_13 : decode method_2_code 13 = .ok (.getstatic 13, 3) := by decide +kernel
theorem d1_16 : decode method_2_code 16 = .ok (.areturn, 1) := by decide +kernel
theorem d1_4 : decode method_2_code 4 = .ok (.getstatic 7, 3) := by decide +kernel
theorem d1_7 : decode method_2_code 7 = .ok (.areturn, 1) := by decide +kernel
theorem b0_0_1 : oBlk code 0 [.iload_n 0] = some 1 := by decide +kernel
theorem d0_1 : decode code 1 = .ok (.ldc 19, 2) := by decide +kernel
theorem b0_3_5 : oBlk code 3 [.iand, .iconst 3] = some 5 := by decide +kernel
theorem d0_5 : decode code 5 = .ok (.irem, 1) := by decide +kernel
theorem b0_6_8 : oBlk code 6 [.istore_n 2, .iload_n 1] = some 8 := by decide +kernel
theorem d0_8 : decode code 8 = .ok (.ldc 19, 2) := by decide +kernel
theorem b0_10_12 : oBlk code 10 [.iand, .iconst 3] = some 12 := by decide +kernel
theorem d0_12 : decode code 12 = .ok (.irem, 1) := by decide +kernel
theorem b0_13_15 : oBlk code 13 [.istore_n 3, .iload_n 2] = some 15 := by decide +kernel
theorem d0_15 : decode code 15 = .ok (.invokestatic 20, 3) := by decide +kernel
theorem pd_0 : parseMethodDescriptor "(I)Lcom/example/contribution/contribution/query/Truth;" = some ⟨[.int], some (.object "com/example/contribution/contribution/query/Truth")⟩ := by decide +kernel
theorem b0_18_21 : oBlk code 18 [.astore 4, .iload_n 3] = some 21 := by decide +kernel
theorem d0_21 : decode code 21 = .ok (.invokestatic 20, 3) := by decide +kernel
theorem b0_24_30 : oBlk code 24 [.astore 5, .aload 4, .aload 5] = some 30 := by decide +kernel
theorem d0_30 : decode code 30 = .ok (.invokevirtual 26, 3) := by decide +kernel
theorem pd_1 : parseMethodDescriptor "(Lcom/example/contribution/contribution/query/Truth;)Lcom/example/contribution/contribution/query/Truth;" = some ⟨[(.object "com/example/contribution/contribution/query/Truth")], some (.object "com/example/contribution/contribution/query/Truth")⟩ := by decide +kernel
theorem b0_33_37 : oBlk code 33 [.astore 6, .aload 6] = some 37 := by decide +kernel
theorem d0_37 : decode code 37 = .ok (.invokestatic 30, 3) := by decide +kernel
theorem pd_2 : parseMethodDescriptor "(Lcom/example/contribution/contribution/query/Truth;)I" = some ⟨[(.object "com/example/contribution/contribution/query/Truth")], some .int⟩ := by decide +kernel
theorem b0_40_42 : oBlk code 40 [.iload_n 2, .iload_n 3] = some 42 := by decide +kernel
theorem d0_42 : decode code 42 = .ok (.invokestatic 34, 3) := by decide +kernel
theorem pd_3 : parseMethodDescriptor "(II)I" = some ⟨[.int, .int], some .int⟩ := by decide +kernel
theorem d0_45 : decode code 45 = .ok (.if_icmp .ne 7, 3) := by decide +kernel
theorem b0_48_49 : oBlk code 48 [.iconst 1] = some 49 := by decide +kernel
theorem d0_49 : decode code 49 = .ok (.goto 4, 3) := by decide +kernel
theorem d0_53 : decode code 53 = .ok (.ireturn, 1) := by decide +kernel
set_option maxRecDepth 65536 in
set_option maxHeartbeats 40000000 in
theorem rm_or (l : Launch) (Z : State) (a0 : Array Value) (hw : ∀ d ∈ tables_1, d.before a0 Z = true) (A : Nat → Addr) (hen : OEnum Z "com/example/contribution/contribution/query/Truth" "Lcom/example/contribution/contribution/query/Truth;" ["TRUE", "FALSE", "UNKNOWN"] A) (i j : Nat) (hi : i < 3) (hj : j < 3) (h0 : Heap) (hE0 : Ext Z.heap h0)  :
    OCtr l Z (⟨"com/example/contribution/contribution/query/Truth", "or", "(Lcom/example/contribution/contribution/query/Truth;)Lcom/example/contribution/contribution/query/Truth;"⟩ : MethodName) prog_43_method_6_code 3 (some (.object "com/example/contribution/contribution/query/Truth")) ({ frames := 0, cells := 0, slots := 0, locals := 0 } : Room) #[(.ref (A i)), (.ref (A j))] h0 (fun v h => v = some (.ref (A (own_or i j))) ∧ h0 = h) := by
  refine o_body (ls0 := #[.val (.ref (A i)), .val (.ref (A j)), .unset]) (plainFor_of_name pn_0) hE0 (fun m => by first | (simp [entryFrame, mkF, argsToLocals, Value.category]; done) | rfl) ?_
  intro pG eG sG mG bG meG cG
  refine o_blk (pc' := 1) (st' := [(.ref (A i))]) (ls' := #[.val (.ref (A i)), .val (.ref (A j)), .unset]) b2_0_1 rfl ?_
  refine o_getS (pc' := 4) (v := (.ref (A 0))) (own_word hw 13 rfl) (hen 0 "TRUE" rfl).1 d2_1 rfl ?_
  refine o_aeq (A := A) (i := i) (j := 0) (pc' := 14) (pc'' := 7) (fun q => hen.inj (by decide) hi (by decide) q) d2_4 (by decide) (by decide) rfl (fun (hc4_1 : i = 0) => ?_) (fun (hc4_1 : ¬ i = 0) => ?_)
  ·
    refine o_getS (pc' := 17) (v := (.ref (A 0))) (own_word hw 13 rfl) (hen 0 "TRUE" rfl).1 d2_14 rfl ?_
    refine o_blk (pc' := 18) (st' := []) (ls' := #[.val (.ref (A i)), .val (.ref (A j)), .val (.ref (A 0))]) b2_17_18 rfl ?_
    refine o_goto (pc' := 46) d2_18 (by decide) (by decide) ?_
    refine o_blk (pc' := 47) (st' := [(.ref (A 0))]) (ls' := #[.val (.ref (A i)), .val (.ref (A j)), .val (.ref (A 0))]) b2_46_47 rfl ?_
    exact o_retA d2_47 (by decide) (by decide) rfl rfl rfl ⟨by simp [own_or, *], rfl⟩
  ·
    refine o_blk (pc' := 8) (st' := [(.ref (A j))]) (ls' := #[.val (.ref (A i)), .val (.ref (A j)), .unset]) b2_7_8 rfl ?_
    refine o_getS (pc' := 11) (v := (.ref (A 0))) (own_word hw 13 rfl) (hen 0 "TRUE" rfl).1 d2_8 rfl ?_
    refine o_ane (A := A) (i := j) (j := 0) (pc' := 21) (pc'' := 14) (fun q => hen.inj (by decide) hj (by decide) q) d2_11 (by decide) (by decide) rfl (fun (hc11_2 : ¬ j = 0) => ?_) (fun (hc11_2 : j = 0) => ?_)
    ·
      refine o_blk (pc' := 22) (st' := [(.ref (A i))]) (ls' := #[.val (.ref (A i)), .val (.ref (A j)), .unset]) b2_21_22 rfl ?_
      refine o_getS (pc' := 25) (v := (.ref (A 2))) (own_word hw 15 rfl) (hen 2 "UNKNOWN" rfl).1 d2_22 rfl ?_
      refine o_aeq (A := A) (i := i) (j := 2) (pc' := 35) (pc'' := 28) (fun q => hen.inj (by decide) hi (by decide) q) d2_25 (by decide) (by decide) rfl (fun (hc25_3 : i = 2) => ?_) (fun (hc25_3 : ¬ i = 2) => ?_)
      ·
        refine o_getS (pc' := 38) (v := (.ref (A 2))) (own_word hw 15 rfl) (hen 2 "UNKNOWN" rfl).1 d2_35 rfl ?_
        refine o_blk (pc' := 39) (st' := []) (ls' := #[.val (.ref (A i)), .val (.ref (A j)), .val (.ref (A 2))]) b2_38_39 rfl ?_
        refine o_goto (pc' := 46) d2_39 (by decide) (by decide) ?_
        refine o_blk (pc' := 47) (st' := [(.ref (A 2))]) (ls' := #[.val (.ref (A i)), .val (.ref (A j)), .val (.ref (A 2))]) b2_46_47 rfl ?_
        exact o_retA d2_47 (by decide) (by decide) rfl rfl rfl ⟨by simp [own_or, *], rfl⟩
      ·
        refine o_blk (pc' := 29) (st' := [(.ref (A j))]) (ls' := #[.val (.ref (A i)), .val (.ref (A j)), .unset]) b2_28_29 rfl ?_
        refine o_getS (pc' := 32) (v := (.ref (A 2))) (own_word hw 15 rfl) (hen 2 "UNKNOWN" rfl).1 d2_29 rfl ?_
        refine o_ane (A := A) (i := j) (j := 2) (pc' := 42) (pc'' := 35) (fun q => hen.inj (by decide) hj (by decide) q) d2_32 (by decide) (by decide) rfl (fun (hc32_4 : ¬ j = 2) => ?_) (fun (hc32_4 : j = 2) => ?_)
        ·
          refine o_getS (pc' := 45) (v := (.ref (A 1))) (own_word hw 17 rfl) (hen 1 "FALSE" rfl).1 d2_42 rfl ?_
          refine o_blk (pc' := 47) (st' := [(.ref (A 1))]) (ls' := #[.val (.ref (A i)), .val (.ref (A j)), .val (.ref (A 1))]) b2_45_47 rfl ?_
          exact o_retA d2_47 (by decide) (by decide) rfl rfl rfl ⟨by simp [own_or, *], rfl⟩
        ·
          refine o_getS (pc' := 38) (v := (.ref (A 2))) (own_word hw 15 rfl) (hen 2 "UNKNOWN" rfl).1 d2_35 rfl ?_
          refine o_blk (pc' := 39) (st' := []) (ls' := #[.val (.ref (A i)), .val (.ref (A j)), .val (.ref (A 2))]) b2_38_39 rfl ?_
          refine o_goto (pc' := 46) d2_39 (by decide) (by decide) ?_
          refine o_blk (pc' := 47) (st' := [(.ref (A 2))]) (ls' := #[.val (.ref (A i)), .val (.ref (A j)), .val (.ref (A 2))]) b2_46_47 rfl ?_
          exact o_retA d2_47 (by decide) (by decide) rfl rfl rfl ⟨by simp [own_or, *], rfl⟩
    ·
      refine o_getS (pc' := 17) (v := (.ref (A 0))) (own_word hw 13 rfl) (hen 0 "TRUE" rfl).1 d2_14 rfl ?_
      refine o_blk (pc' := 18) (st' := []) (ls' := #[.val (.ref (A i)), .val (.ref (A j)), .val (.ref (A 0))]) b2_17_18 rfl ?_
      refine o_goto (pc' := 46) d2_18 (by decide) (by decide) ?_
      refine o_blk (pc' := 47) (st' := [(.ref (A 0))]) (ls' := #[.val (.ref (A i)), .val (.ref (A j)), .val (.ref (A 0))]) b2_46_47 rfl ?_
      exact o_retA d2_47 (by decide) (by decide) rfl rfl rfl ⟨by simp [own_or, *], rfl⟩
set_option maxRecDepth 65536 in
set_option maxHeartbeats 40000000 in
theorem rm_rank (l : Launch) (Z : State) (a0 : Array Value) (hw : ∀ d ∈ tables_1, d.before a0 Z = true) (A : Nat → Addr) (hen : OEnum Z "com/example/contribution/contribution/query/Truth" "Lcom/example/contribution/contribution/query/Truth;" ["TRUE", "FALSE", "UNKNOWN"] A) (i : Nat) (hi : i < 3) (h0 : Heap) (hE0 : Ext Z.heap h0)  :
    OCtr l Z (⟨"com/example/contribution/contribution/query/TruthOrPinLaw", "rank", "(Lcom/example/contribution/contribution/query/Truth;)I"⟩ : MethodName) method_3_code 1 (some .int) ({ frames := 0, cells := 0, slots := 0, locals := 0 } : Room) #[(.ref (A i))] h0 (fun v h => v = some (.int (own_rank i)) ∧ h0 = h) := by
  refine o_body (ls0 := #[.val (.ref (A i))]) (plainFor_of_name pn_1) hE0 (fun m => by first | (simp [entryFrame, mkF, argsToLocals, Value.category]; done) | rfl) ?_
  intro pG eG sG mG bG meG cG
  refine o_blk (pc' := 1) (st' := [(.ref (A i))]) (ls' := #[.val (.ref (A i))]) b3_0_1 rfl ?_
  refine o_getS (pc' := 4) (v := (.ref (A 1))) (own_word hw 5 rfl) (hen 1 "FALSE" rfl).1 d3_1 rfl ?_
  refine o_ane (A := A) (i := i) (j := 1) (pc' := 9) (pc'' := 7) (fun q => hen.inj (by decide) hi (by decide) q) d3_4 (by decide) (by decide) rfl (fun (hc4_1 : ¬ i = 1) => ?_) (fun (hc4_1 : i = 1) => ?_)
  ·
    refine o_blk (pc' := 10) (st' := [(.ref (A i))]) (ls' := #[.val (.ref (A i))]) b3_9_10 rfl ?_
    refine o_getS (pc' := 13) (v := (.ref (A 2))) (own_word hw 26 rfl) (hen 2 "UNKNOWN" rfl).1 d3_10 rfl ?_
    refine o_ane (A := A) (i := i) (j := 2) (pc' := 18) (pc'' := 16) (fun q => hen.inj (by decide) hi (by decide) q) d3_13 (by decide) (by decide) rfl (fun (hc13_2 : ¬ i = 2) => ?_) (fun (hc13_2 : i = 2) => ?_)
    ·
      refine o_blk (pc' := 19) (st' := [(.ref (A i))]) (ls' := #[.val (.ref (A i))]) b3_18_19 rfl ?_
      refine o_getS (pc' := 22) (v := (.ref (A 0))) (own_word hw 25 rfl) (hen 0 "TRUE" rfl).1 d3_19 rfl ?_
      refine o_ane (A := A) (i := i) (j := 0) (pc' := 27) (pc'' := 25) (fun q => hen.inj (by decide) hi (by decide) q) d3_22 (by decide) (by decide) rfl (fun (hc22_3 : ¬ i = 0) => ?_) (fun (hc22_3 : i = 0) => ?_)
      ·
        refine o_blk (pc' := 28) (st' := [(.int (-1 : Int32))]) (ls' := #[.val (.ref (A i))]) b3_27_28 rfl ?_
        exact o_retI d3_28 (by decide) (by decide) rfl (by omega)
      ·
        refine o_blk (pc' := 26) (st' := [(.int (2 : Int32))]) (ls' := #[.val (.ref (A i))]) b3_25_26 rfl ?_
        exact o_retI d3_26 (by decide) (by decide) rfl ⟨by simp [own_rank, *], rfl⟩
    ·
      refine o_blk (pc' := 17) (st' := [(.int (1 : Int32))]) (ls' := #[.val (.ref (A i))]) b3_16_17 rfl ?_
      exact o_retI d3_17 (by decide) (by decide) rfl ⟨by simp [own_rank, *], rfl⟩
  ·
    refine o_blk (pc' := 8) (st' := [(.int (0 : Int32))]) (ls' := #[.val (.ref (A i))]) b3_7_8 rfl ?_
    exact o_retI d3_8 (by decide) (by decide) rfl ⟨by simp [own_rank, *], rfl⟩
set_option maxRecDepth 65536 in
set_option maxHeartbeats 40000000 in
theorem rm_max (l : Launch) (Z : State) (a0 : Array Value) (hw : ∀ d ∈ tables_1, d.before a0 Z = true) (p1 p2 : Int32) (h0 : Heap) (hE0 : Ext Z.heap h0)  :
    OCtr l Z (⟨"java/lang/Math", "max", "(II)I"⟩ : MethodName) jdk_29_method_65_code 2 (some .int) ({ frames := 0, cells := 0, slots := 0, locals := 0 } : Room) #[(.int p1), (.int p2)] h0 (fun v h => v = some (.int (if p1 < p2 then p2 else p1)) ∧ h0 = h) := by
  refine o_body (ls0 := #[.val (.int p1), .val (.int p2)]) (Jvm.Free.JP.mathPlain rfl (by decide +kernel)) hE0 (fun m => by first | (simp [entryFrame, mkF, argsToLocals, Value.category]; done) | rfl) ?_
  intro pG eG sG mG bG meG cG
  refine o_blk (pc' := 2) (st' := [(.int p2), (.int p1)]) (ls' := #[.val (.int p1), .val (.int p2)]) b4_0_2 rfl ?_
  refine o_ic (pc' := 9) (pc'' := 5) d4_2 (by decide) (by decide) rfl (fun (hc2_1 : p1 < p2) => ?_) (fun (hc2_1 : ¬ p1 < p2) => ?_)
  ·
    refine o_blk (pc' := 10) (st' := [(.int p2)]) (ls' := #[.val (.int p1), .val (.int p2)]) b4_9_10 rfl ?_
    exact o_retI d4_10 (by decide) (by decide) rfl ⟨by simp [*], rfl⟩
  ·
    refine o_blk (pc' := 6) (st' := [(.int p1)]) (ls' := #[.val (.int p1), .val (.int p2)]) b4_5_6 rfl ?_
    refine o_goto (pc' := 10) d4_6 (by decide) (by decide) ?_
    exact o_retI d4_10 (by decide) (by decide) rfl ⟨by simp [*], rfl⟩
set_option maxRecDepth 65536 in
set_option maxHeartbeats 40000000 in
theorem rm_pick (l : Launch) (Z : State) (a0 : Array Value) (hw : ∀ d ∈ tables_1, d.before a0 Z = true) (A : Nat → Addr) (hen : OEnum Z "com/example/contribution/contribution/query/Truth" "Lcom/example/contribution/contribution/query/Truth;" ["TRUE", "FALSE", "UNKNOWN"] A) (t : Nat) (ht : t < 3) (h0 : Heap) (hE0 : Ext Z.heap h0)  :
    OCtr l Z (⟨"com/example/contribution/contribution/query/TruthOrPinLaw", "pick", "(I)Lcom/example/contribution/contribution/query/Truth;"⟩ : MethodName) method_2_code 1 (some (.object "com/example/contribution/contribution/query/Truth")) ({ frames := 0, cells := 0, slots := 0, locals := 0 } : Room) #[(.int (Int32.ofNat t))] h0 (fun v h => v = some (.ref (A (own_pick t))) ∧ h0 = h) := by
  refine o_body (ls0 := #[.val (.int (Int32.ofNat t))]) (plainFor_of_name pn_1) hE0 (fun m => by first | (simp [entryFrame, mkF, argsToLocals, Value.category]; done) | rfl) ?_
  intro pG eG sG mG bG meG cG
  refine o_blk (pc' := 1) (st' := [(.int (Int32.ofNat t))]) (ls' := #[.val (.int (Int32.ofNat t))]) b1_0_1 rfl ?_
  refine o_if (pc' := 8) (pc'' := 4) d1_1 (by decide) (by decide) rfl (fun (hc1_1 : ¬ (Int32.ofNat t) = 0) => ?_) (fun (hc1_1 : (Int32.ofNat t) = 0) => ?_)
  ·
    have thc1_1 : ¬ t = 0 := fun q => hc1_1 (by rw [q]; rfl)
    refine o_blk (pc' := 10) (st' := [(.int (1 : Int32)), (.int (Int32.ofNat t))]) (ls' := #[.val (.int (Int32.ofNat t))]) b1_8_10 rfl ?_
    refine o_ic (pc' := 17) (pc'' := 13) d1_10 (by decide) (by decide) rfl (fun (hc10_2 : ¬ (Int32.ofNat t) = (1 : Int32)) => ?_) (fun (hc10_2 : (Int32.ofNat t) = (1 : Int32)) => ?_)
    ·
      have thc10_2 : ¬ t = 1 := fun q => hc10_2 (by rw [q]; rfl)
      refine o_getS (pc' := 20) (v := (.ref (A 0))) (own_word hw 25 rfl) (hen 0 "TRUE" rfl).1 d1_17 rfl ?_
      exact o_retA d1_20 (by decide) (by decide) rfl rfl rfl ⟨by simp [own_pick, *], rfl⟩
    ·
      have thc10_2 : t = 1 := own_tag (by omega) (by omega) hc10_2
      refine o_getS (pc' := 16) (v := (.ref (A 2))) (own_word hw 26 rfl) (hen 2 "UNKNOWN" rfl).1 d1_13 rfl ?_
      exact o_retA d1_16 (by decide) (by decide) rfl rfl rfl ⟨by simp [own_pick, *], rfl⟩
  ·
    have thc1_1 : t = 0 := own_tag (by omega) (by omega) hc1_1
    refine o_getS (pc' := 7) (v := (.ref (A 1))) (own_word hw 5 rfl) (hen 1 "FALSE" rfl).1 d1_4 rfl ?_
    exact o_retA d1_7 (by decide) (by decide) rfl rfl rfl ⟨by simp [own_pick, *], rfl⟩
set_option maxRecDepth 65536 in
set_option maxHeartbeats 40000000 in
theorem rm_law (l : Launch) (Z : State) (a0 : Array Value) (hw : ∀ d ∈ tables_1, d.before a0 Z = true) (A : Nat → Addr) (hen : OEnum Z "com/example/contribution/contribution/query/Truth" "Lcom/example/contribution/contribution/query/Truth;" ["TRUE", "FALSE", "UNKNOWN"] A) (p1 p2 : Int32) (h0 : Heap) (hE0 : Ext Z.heap h0)  :
    OCtr l Z x code maxLocals ret room_1 #[(.int p1), (.int p2)] h0 (fun v h => v = some (.int 1)) := by
  refine o_body (ls0 := #[.val (.int p1), .val (.int p2), .unset, .unset, .unset, .unset, .unset]) (plainFor_of_name pn_1) hE0 (fun m => by first | (simp [entryFrame, mkF, argsToLocals, Value.category, maxLocals]; done) | rfl) ?_
  intro pG eG sG mG bG meG cG
  refine o_blk (pc' := 1) (st' := [(.int p1)]) (ls' := #[.val (.int p1), .val (.int p2), .unset, .unset, .unset, .unset, .unset]) b0_0_1 rfl ?_
  refine o_ldc (pc' := 3) (v := 2147483647) (own_word hw 0 rfl) d0_1 rfl ?_
  refine o_blk (pc' := 5) (st' := [(.int (3 : Int32)), (.int (p1 &&& (2147483647 : Int32)))]) (ls' := #[.val (.int p1), .val (.int p2), .unset, .unset, .unset, .unset, .unset]) b0_3_5 rfl ?_
  refine o_irem (pc' := 6) d0_5 (by decide) rfl ?_
  obtain ⟨t, ht, hte⟩ := own_mod p1 (n := 3) (k := 3) rfl (by decide) (by decide)
  rw [hte]
  refine o_blk (pc' := 8) (st' := [(.int p2)]) (ls' := #[.val (.int p1), .val (.int p2), .val (.int (Int32.ofNat t)), .unset, .unset, .unset, .unset]) b0_6_8 rfl ?_
  refine o_ldc (pc' := 10) (v := 2147483647) (own_word hw 0 rfl) d0_8 rfl ?_
  refine o_blk (pc' := 12) (st' := [(.int (3 : Int32)), (.int (p2 &&& (2147483647 : Int32)))]) (ls' := #[.val (.int p1), .val (.int p2), .val (.int (Int32.ofNat t)), .unset, .unset, .unset, .unset]) b0_10_12 rfl ?_
  refine o_irem (pc' := 13) d0_12 (by decide) rfl ?_
  obtain ⟨u, hu, hue⟩ := own_mod p2 (n := 3) (k := 3) rfl (by decide) (by decide)
  rw [hue]
  refine o_blk (pc' := 15) (st' := [(.int (Int32.ofNat t))]) (ls' := #[.val (.int p1), .val (.int p2), .val (.int (Int32.ofNat t)), .val (.int (Int32.ofNat u)), .unset, .unset, .unset]) b0_13_15 rfl ?_
  refine o_callS (W := 0) (argsL := [(.int (Int32.ofNat t))]) (rest := []) (pc' := 18) (own_word hw 1 rfl) (own_word hw 2 rfl) (own_word hw 3 rfl) (own_word hw 4 rfl) (by decide) (fun hE => rm_pick l Z a0 hw A hen t ht h0 hE) d0_15 pd_0 rfl rfl rfl (Nat.le_of_eq rfl) (by decide) (by decide) (by decide) (by decide) rfl ?_
  rintro _ _ ⟨rfl, rfl⟩ hs1
  refine o_blk (pc' := 21) (st' := [(.int (Int32.ofNat u))]) (ls' := #[.val (.int p1), .val (.int p2), .val (.int (Int32.ofNat t)), .val (.int (Int32.ofNat u)), .val (.ref (A (own_pick t))), .unset, .unset]) b0_18_21 rfl ?_
  refine o_callS (W := 0) (argsL := [(.int (Int32.ofNat u))]) (rest := []) (pc' := 24) (own_word hw 1 rfl) (own_word hw 2 rfl) (own_word hw 3 rfl) (own_word hw 4 rfl) (by decide) (fun hE => rm_pick l Z a0 hw A hen u hu h0 hE) d0_21 pd_0 rfl rfl rfl (Nat.le_of_eq rfl) (by decide) (by decide) (by decide) (by decide) rfl ?_
  rintro _ _ ⟨rfl, rfl⟩ hs2
  refine o_blk (pc' := 30) (st' := [(.ref (A (own_pick u))), (.ref (A (own_pick t)))]) (ls' := #[.val (.int p1), .val (.int p2), .val (.int (Int32.ofNat t)), .val (.int (Int32.ofNat u)), .val (.ref (A (own_pick t))), .val (.ref (A (own_pick u))), .unset]) b0_24_30 rfl ?_
  refine o_callV (W := 0) (argsL := [(.ref (A (own_pick u)))]) (rest := []) (pc' := 33) (own_word hw 8 rfl) (own_word hw 9 rfl) (own_word hw 11 rfl) (own_word hw 11 rfl) (own_word hw 10 rfl) (own_word hw 12 rfl) (own_word hw 6 rfl) (by decide) ((hen (own_pick t) _ (List.getElem?_eq_getElem (show (own_pick t) < 3 from own_pick_lt))).2.1.ext hE0) (fun hE => rm_or l Z a0 hw A hen (own_pick t) (own_pick u) own_pick_lt own_pick_lt h0 hE) d0_30 pd_1 rfl rfl rfl (Nat.le_of_eq rfl) (by decide) (by decide) (by decide) (by decide) rfl ?_
  rintro _ _ ⟨rfl, rfl⟩ hs3
  refine o_blk (pc' := 37) (st' := [(.ref (A (own_or (own_pick t) (own_pick u))))]) (ls' := #[.val (.int p1), .val (.int p2), .val (.int (Int32.ofNat t)), .val (.int (Int32.ofNat u)), .val (.ref (A (own_pick t))), .val (.ref (A (own_pick u))), .val (.ref (A (own_or (own_pick t) (own_pick u))))]) b0_33_37 rfl ?_
  refine o_callS (W := 0) (argsL := [(.ref (A (own_or (own_pick t) (own_pick u))))]) (rest := []) (pc' := 40) (own_word hw 18 rfl) (own_word hw 19 rfl) (own_word hw 3 rfl) (own_word hw 20 rfl) (by decide) (fun hE => rm_rank l Z a0 hw A hen (own_or (own_pick t) (own_pick u)) own_or_lt h0 hE) d0_37 pd_2 rfl rfl rfl (Nat.le_of_eq rfl) (by decide) (by decide) (by decide) (by decide) rfl ?_
  rintro _ _ ⟨rfl, rfl⟩ hs4
  refine o_blk (pc' := 42) (st' := [(.int (Int32.ofNat u)), (.int (Int32.ofNat t)), (.int (own_rank (own_or (own_pick t) (own_pick u))))]) (ls' := #[.val (.int p1), .val (.int p2), .val (.int (Int32.ofNat t)), .val (.int (Int32.ofNat u)), .val (.ref (A (own_pick t))), .val (.ref (A (own_pick u))), .val (.ref (A (own_or (own_pick t) (own_pick u))))]) b0_40_42 rfl ?_
  refine o_callS (W := 1) (argsL := [(.int (Int32.ofNat t)), (.int (Int32.ofNat u))]) (rest := [(.int (own_rank (own_or (own_pick t) (own_pick u))))]) (pc' := 45) (own_word hw 21 rfl) (own_word hw 22 rfl) (own_word hw 23 rfl) (own_word hw 24 rfl) (by decide) (fun hE => rm_max l Z a0 hw (Int32.ofNat t) (Int32.ofNat u) h0 hE) d0_42 pd_3 rfl rfl rfl (Nat.le_of_eq rfl) (by decide) (by decide) (by decide) (by decide) rfl ?_
  rintro _ _ ⟨rfl, rfl⟩ hs5
  refine o_icN (pc' := 48) d0_45 rfl (own_m2 t ht u hu : (own_rank (own_or (own_pick t) (own_pick u))) = (if (Int32.ofNat t) < (Int32.ofNat u) then (Int32.ofNat u) else (Int32.ofNat t))) ?_
  refine o_blk (pc' := 49) (st' := [(.int (1 : Int32))]) (ls' := #[.val (.int p1), .val (.int p2), .val (.int (Int32.ofNat t)), .val (.int (Int32.ofNat u)), .val (.ref (A (own_pick t))), .val (.ref (A (own_pick u))), .val (.ref (A (own_or (own_pick t) (own_pick u))))]) b0_48_49 rfl ?_
  refine o_goto (pc' := 53) d0_49 (by decide) (by decide) ?_
  exact o_retZ (w := 0) d0_53 (by decide) (by decide) rfl (by decide) rfl
set_option maxRecDepth 65536 in
set_option maxHeartbeats 40000000 in
theorem comes_1 {Post : Tables → Env → Array Value → State → Outcome → State → Prop} (hpost : ∀ tb e args s v u, (limb_1_1.after args s (.returned v) u = true ∧ limb_1_2.after args s (.returned v) u = true ∧ True) → FrameEnd s (.returned v) u (Jvm.fieldLocs frame_1_writes args s ++ Jvm.arrayLocs frame_1_arrays args s ++ Jvm.staticLocs frame_1_statics s) 0 0 → Post tb e args s (.returned v) u) :
    ArmFor flags0 classFile x code maxLocals ret World_1 tables_1 room_1 Calls_1 rest_1 Pre_1 Post := by
  intro l hfl _ _ p e ha hc hk s m args below hf hA hF happ hP
  obtain ⟨hcalls, hrest, hpre⟩ := hP
  obtain ⟨-, -, -, hnamed, -, -, -, hat⟩ := (Spec.applies_iff hf).mp happ
  obtain ⟨hg, hn⟩ := and_e (Cond.before_iff.mp (show (Jvm.Cond.and given_1 narrow_1).before args s = true from hpre))
  obtain ⟨g0, hg⟩ := and_e hg
  obtain ⟨k0, hg⟩ := and_e hg
  have k1 := hg
  obtain ⟨w0, w1, rfl⟩ : ∃ w0 w1 : Value, args = #[w0, w1] := by
    have hs : args.size = 2 := by simpa [Cond.value, given_1] using g0
    obtain ⟨L⟩ := args
    match L, hs with
    | [w0, w1], _ => exact ⟨w0, w1, rfl⟩
  have hw := fun d (hd : d ∈ tables_1) => atoms_spec (ws := Jvm.Cond.code x code maxLocals ret :: tables_1) hat d (List.mem_cons_of_mem _ hd)
  have hfit : Fit s := fun {y c} hc i hi => by
    obtain ⟨ha, rfl⟩ := Array.getElem?_eq_some_iff.mp hc
    have q := List.all_eq_true.mp ((Array.all_eq_true_iff_forall_mem.mp hF) _ (Array.getElem_mem ha)) i (List.mem_range.mpr hi)
    simpa [Array.getElem?_eq_getElem hi] using q
  obtain ⟨i0, e0⟩ := is_v k0
  obtain rfl : w0 = (.int i0) := Option.some.inj e0
  obtain ⟨i1, e1⟩ := is_v k1
  obtain rfl : w1 = (.int i1) := Option.some.inj e1
  obtain ⟨q_x_FALSE, hn⟩ := and_e hn
  obtain ⟨q_x_TRUE, hn⟩ := and_e hn
  obtain ⟨q_o_FALSE, hn⟩ := and_e hn
  obtain ⟨q_o_TRUE, hn⟩ := and_e hn
  obtain ⟨q_x_UNKNOWN, hn⟩ := and_e hn
  have q_o_UNKNOWN := hn
  obtain ⟨c0, hc0⟩ := own_const q_x_TRUE q_o_TRUE (own_word hw 6 rfl) (own_word hw 14 rfl)
  obtain ⟨c1, hc1⟩ := own_const q_x_FALSE q_o_FALSE (own_word hw 6 rfl) (own_word hw 7 rfl)
  obtain ⟨c2, hc2⟩ := own_const q_x_UNKNOWN q_o_UNKNOWN (own_word hw 6 rfl) (own_word hw 16 rfl)
  obtain ⟨A, hA⟩ : ∃ A : Nat → Addr, A = fun i => match i with | 0 => c0 | 1 => c1 | _ => c2 := ⟨_, rfl⟩
  have hen : OEnum s "com/example/contribution/contribution/query/Truth" "Lcom/example/contribution/contribution/query/Truth;" ["TRUE", "FALSE", "UNKNOWN"] A := by
    intro i f hf
    subst hA
    rcases i with _ | i
    · cases hf; exact hc0
    rcases i with _ | i
    · cases hf; exact hc1
    rcases i with _ | i
    · cases hf; exact hc2
    · cases hf
  obtain ⟨n, o, h1, h2, h3, _, L, rfl, ⟨⟨rfl, _⟩, N⟩, hq⟩ := rm_law l s _ hw A hen i0 i1 s.heap ⟨Nat.le_refl _, fun _ _ q => q⟩ tables_1 p e ha hc hk s m _ below hf ((Spec.applies_iff_loose hf).mp happ).1 ⟨rfl, State.Warmed39.refl s, rfl⟩ trivial
  refine ⟨n, _, h1, h2, h3, hpost _ _ _ _ _ _ ⟨Cond.after_iff.mpr rfl, Cond.after_iff.mpr (eq_i res_at (Term.int_eval (1)) rfl), trivial⟩ ⟨hq.1, hq.2.1, (hq.2.2.sift fun y hy => Or.inr (N y hy)).mono (by decide) (by decide)⟩⟩
theorem main_1_1 : Claimed_1_1 := comes_1 fun _ _ _ _ _ _ h hF => ⟨h.1, hF⟩
theorem main_1_2 : Claimed_1_2 := comes_1 fun _ _ _ _ _ _ h hF => ⟨h.2.1, hF⟩
end Jvm.Pilot.@@N@@
namespace Jvm.Pilot.@@N@@
open Jvm Jvm.ClassFile Sem Op Lib Jvm.Free Jvm.Stand Jvm.Pilot.@@N@@.Jvm.D
/-! MADE BY PROGRAM (witnessworld.py) out of the Statement's table words and the real class files: 13 classes; the members and pool entries that the words name. The judged class is class 1, her method 3. -/
namespace start1
open Jvm.ClassFile
def u (s : String) : CpInfo := .utf8 (stringToUtf16 s)
/-- a pool by its gaps: so many unusable entries, then the entry; so many at the end -/
def gap : Nat → List CpInfo → List CpInfo
  | 0, r => r
  | n + 1, r => .unusable :: gap n r
def poolList (es : List (Nat × CpInfo)) (last : Nat) : List CpInfo := es.foldr (fun e r => gap e.1 (e.2 :: r)) (gap last [])
def pool (es : List (Nat × CpInfo)) (last : Nat) : Array CpInfo := ⟨poolList es last⟩
def fileOf (pool : Array CpInfo) (this : Nat) (attrs : Array Attribute := #[]) (ms : Array MethodInfo := #[]) (fl : Nat := 33) (sup : Nat := 0) (ifs : Array Nat := #[]) (fds : Array FieldInfo := #[]) : ClassFile where
  minorVersion := 0
  majorVersion := 65
  constantPool := pool
  accessFlags := fl
  thisClass := this
  superClass := sup
  interfaces := ifs
  fields := fds
  methods := ms
  attributes := attrs
def plain (name : String) (sup : Option ClassId) : Class where
  name := name
  kind := .ordinary
  loader := none
  accessFlags := 33
  super := sup
  interfaces := #[]
  cf := none
  fields := #[]
  methods := #[]
  instanceTypes := #[]
  staticTypes := #[]
  resolved := #[]
  callSites := []
  init := .initialized
  statics := none
  mirror := none

def pool0 : Array CpInfo := pool [(5, u "<init>"), (0, u "()V"), (1, .class_ 10), (1, u "java/lang/Object")] 113

def k0m0 : Method := { name := "<init>", desc := "()V", sig := { parameters := [], returnType := none }, accessFlags := 1, code := none }
/-- java/lang/Object -/
def k0 : Class := { plain "java/lang/Object" none with
  accessFlags := 33
  interfaces := #[]
  cf := some (fileOf pool0 8 #[] #[{ accessFlags := 1, nameIndex := 5, descriptorIndex := 6, attributes := #[] }] 33 0 #[] #[])
  fields := #[]
  methods := #[k0m0]
  instanceTypes := #[]
  staticTypes := #[]
  resolved := Array.replicate 124 none
  statics := none }

def pool1 : Array CpInfo := pool [(2, .class_ 4), (1, u "java/lang/Object"), (0, u "<init>"), (0, u "()V"), (0, .fieldref 8 9), (0, .class_ 10), (0, .nameAndType 11 12), (0, u "com/example/contribution/contribution/query/Truth"), (0, u "FALSE"), (0, u "Lcom/example/contribution/contribution/query/Truth;"), (0, .fieldref 8 14), (0, .nameAndType 15 12), (0, u "UNKNOWN"), (0, .fieldref 8 17), (0, .nameAndType 18 12), (0, u "TRUE"), (0, .integer 2147483647), (0, .methodref 21 22), (0, .class_ 23), (0, .nameAndType 24 25), (0, u "com/example/contribution/contribution/query/TruthOrPinLaw"), (0, u "pick"), (0, u "(I)Lcom/example/contribution/contribution/query/Truth;"), (0, .methodref 8 27), (0, .nameAndType 28 29), (0, u "or"), (0, u "(Lcom/example/contribution/contribution/query/Truth;)Lcom/example/contribution/contribution/query/Truth;"), (0, .methodref 21 31), (0, .nameAndType 32 33), (0, u "rank"), (0, u "(Lcom/example/contribution/contribution/query/Truth;)I"), (0, .methodref 35 36), (0, .class_ 37), (0, .nameAndType 38 39), (0, u "java/lang/Math"), (0, u "max"), (0, u "(II)I"), (3, u "law"), (0, u "(II)Z")] 2

def k1m0 : Method := { name := "<init>", desc := "()V", sig := { parameters := [], returnType := none }, accessFlags := 2, code := none }
def k1c1 : Code := { maxStack := 2, maxLocals := 1, code := method_2_code, exceptionTable := #[], attributes := #[] }
def k1m1 : Method := { name := "pick", desc := "(I)Lcom/example/contribution/contribution/query/Truth;", sig := { parameters := [.int], returnType := some (.object "com/example/contribution/contribution/query/Truth") }, accessFlags := 10, code := some k1c1 }
def k1c2 : Code := { maxStack := 2, maxLocals := 1, code := method_3_code, exceptionTable := #[], attributes := #[] }
def k1m2 : Method := { name := "rank", desc := "(Lcom/example/contribution/contribution/query/Truth;)I", sig := { parameters := [(.object "com/example/contribution/contribution/query/Truth")], returnType := some .int }, accessFlags := 10, code := some k1c2 }
def k1c3 : Code := { maxStack := 3, maxLocals := 7, code := code, exceptionTable := #[], attributes := #[] }
def k1m3 : Method := { name := "law", desc := "(II)Z", sig := { parameters := [.int, .int], returnType := some .boolean }, accessFlags := 9, code := some k1c3 }
/-- com/example/contribution/contribution/query/TruthOrPinLaw -/
def k1 : Class := { plain "com/example/contribution/contribution/query/TruthOrPinLaw" (some 0) with
  accessFlags := 49
  interfaces := #[]
  cf := some (fileOf pool1 21 #[] #[{ accessFlags := 2, nameIndex := 5, descriptorIndex := 6, attributes := #[] }, { accessFlags := 10, nameIndex := 24, descriptorIndex := 25, attributes := #[] }, { accessFlags := 10, nameIndex := 32, descriptorIndex := 33, attributes := #[] }, { accessFlags := 9, nameIndex := 43, descriptorIndex := 44, attributes := #[] }] 49 2 #[] #[])
  fields := #[]
  methods := #[k1m0, k1m1, k1m2, k1m3]
  instanceTypes := #[]
  staticTypes := #[]
  resolved := Array.replicate 47 none
  statics := none }

def pool2 : Array CpInfo := pool [(1, .class_ 2), (0, u "java/lang/constant/Constable"), (0, .class_ 4), (0, u "java/lang/Object")] 6

/-- java/lang/constant/Constable -/
def k2 : Class := { plain "java/lang/constant/Constable" (some 0) with
  accessFlags := 1537
  interfaces := #[]
  cf := some (fileOf pool2 1 #[] #[] 1537 3 #[] #[])
  fields := #[]
  methods := #[]
  instanceTypes := #[]
  staticTypes := #[]
  resolved := Array.replicate 11 none
  statics := none }

def pool3 : Array CpInfo := pool [(1, .class_ 2), (0, u "java/lang/Comparable"), (0, .class_ 4), (0, u "java/lang/Object")] 7

/-- java/lang/Comparable -/
def k3 : Class := { plain "java/lang/Comparable" (some 0) with
  accessFlags := 1537
  interfaces := #[]
  cf := some (fileOf pool3 1 #[] #[] 1537 3 #[] #[])
  fields := #[]
  methods := #[]
  instanceTypes := #[]
  staticTypes := #[]
  resolved := Array.replicate 12 none
  statics := none }

def pool4 : Array CpInfo := pool [(1, .class_ 2), (0, u "java/io/Serializable"), (0, .class_ 4), (0, u "java/lang/Object")] 2

/-- java/io/Serializable -/
def k4 : Class := { plain "java/io/Serializable" (some 0) with
  accessFlags := 1537
  interfaces := #[]
  cf := some (fileOf pool4 1 #[] #[] 1537 3 #[] #[])
  fields := #[]
  methods := #[]
  instanceTypes := #[]
  staticTypes := #[]
  resolved := Array.replicate 7 none
  statics := none }

def pool5 : Array CpInfo := pool [(2, .class_ 4), (1, u "java/lang/Enum"), (0, u "name"), (0, u "Ljava/lang/String;"), (2, u "ordinal"), (0, u "I"), (1, .class_ 14), (1, u "java/lang/Object"), (4, u "hash"), (86, .class_ 108), (1, u "java/lang/Enum$EnumDesc"), (2, .class_ 112), (0, u "java/lang/constant/Constable"), (0, .class_ 114), (0, u "java/lang/Comparable"), (0, .class_ 116), (0, u "java/io/Serializable")] 87

/-- java/lang/Enum -/
def k5 : Class := { plain "java/lang/Enum" (some 0) with
  accessFlags := 1057
  interfaces := #[2, 3, 4]
  cf := some (fileOf pool5 2 #[.nestMembers #[106]] #[] 1057 12 #[111, 113, 115] #[{ accessFlags := 18, nameIndex := 5, descriptorIndex := 6, attributes := #[] }, { accessFlags := 18, nameIndex := 9, descriptorIndex := 10, attributes := #[] }, { accessFlags := 2, nameIndex := 19, descriptorIndex := 10, attributes := #[] }])
  fields := #[{ name := "name", type := (.object "java/lang/String"), accessFlags := 18, slot := 0, constantValue := 0 }, { name := "ordinal", type := .int, accessFlags := 18, slot := 1, constantValue := 0 }, { name := "hash", type := .int, accessFlags := 2, slot := 2, constantValue := 0 }]
  methods := #[]
  instanceTypes := #[(.object "java/lang/String"), .int, .int]
  staticTypes := #[]
  resolved := Array.replicate 204 none
  statics := none }

def pool6 : Array CpInfo := pool [(1, .class_ 2), (0, u "com/example/contribution/contribution/query/Truth"), (0, .fieldref 1 4), (0, .nameAndType 5 6), (0, u "TRUE"), (0, u "Lcom/example/contribution/contribution/query/Truth;"), (0, .fieldref 1 8), (0, .nameAndType 9 6), (0, u "FALSE"), (0, .fieldref 1 11), (0, .nameAndType 12 6), (0, u "UNKNOWN"), (2, u "$VALUES"), (0, u "[Lcom/example/contribution/contribution/query/Truth;"), (6, .class_ 25), (1, u "java/lang/Enum"), (25, u "(Lcom/example/contribution/contribution/query/Truth;)Lcom/example/contribution/contribution/query/Truth;"), (0, u "or")] 6

def k6c0 : Code := { maxStack := 2, maxLocals := 3, code := prog_43_method_6_code, exceptionTable := #[], attributes := #[] }
def k6m0 : Method := { name := "or", desc := "(Lcom/example/contribution/contribution/query/Truth;)Lcom/example/contribution/contribution/query/Truth;", sig := { parameters := [(.object "com/example/contribution/contribution/query/Truth")], returnType := some (.object "com/example/contribution/contribution/query/Truth") }, accessFlags := 0, code := some k6c0 }
/-- com/example/contribution/contribution/query/Truth -/
def k6 : Class := { plain "com/example/contribution/contribution/query/Truth" (some 5) with
  accessFlags := 16432
  interfaces := #[]
  cf := some (fileOf pool6 1 #[] #[{ accessFlags := 0, nameIndex := 52, descriptorIndex := 51, attributes := #[] }] 16432 23 #[] #[{ accessFlags := 16409, nameIndex := 5, descriptorIndex := 6, attributes := #[] }, { accessFlags := 16409, nameIndex := 9, descriptorIndex := 6, attributes := #[] }, { accessFlags := 16409, nameIndex := 12, descriptorIndex := 6, attributes := #[] }, { accessFlags := 4122, nameIndex := 15, descriptorIndex := 16, attributes := #[] }])
  fields := #[{ name := "TRUE", type := (.object "com/example/contribution/contribution/query/Truth"), accessFlags := 16409, slot := 0, constantValue := 0 }, { name := "FALSE", type := (.object "com/example/contribution/contribution/query/Truth"), accessFlags := 16409, slot := 1, constantValue := 0 }, { name := "UNKNOWN", type := (.object "com/example/contribution/contribution/query/Truth"), accessFlags := 16409, slot := 2, constantValue := 0 }, { name := "$VALUES", type := (.array (.object "com/example/contribution/contribution/query/Truth")), accessFlags := 4122, slot := 3, constantValue := 0 }]
  methods := #[k6m0]
  instanceTypes := #[(.object "java/lang/String"), .int, .int]
  staticTypes := #[(.object "com/example/contribution/contribution/query/Truth"), (.object "com/example/contribution/contribution/query/Truth"), (.object "com/example/contribution/contribution/query/Truth"), (.array (.object "com/example/contribution/contribution/query/Truth"))]
  resolved := Array.replicate 59 none
  statics := some 0 }

def pool7 : Array CpInfo := pool [(1, .class_ 2), (0, u "java/lang/Math"), (1, .class_ 6), (1, u "java/lang/Object"), (0, u "<init>"), (0, u "()V"), (89, .class_ 100), (1, u "java/lang/Math$RandomNumberGeneratorHolder"), (71, u "negativeZeroFloatBits"), (0, u "J"), (2, u "negativeZeroDoubleBits"), (21, u "max"), (46, u "$assertionsDisabled"), (0, u "Z"), (88, u "(II)I"), (2, u "twoToTheDoubleScaleDown"), (0, u "D"), (4, u "twoToTheDoubleScaleUp"), (9, u "E"), (3, u "PI"), (2, u "TAU"), (2, u "DEGREES_TO_RADIANS"), (0, u "RADIANS_TO_DEGREES")] 94

def k7m0 : Method := { name := "<init>", desc := "()V", sig := { parameters := [], returnType := none }, accessFlags := 2, code := none }
def k7c1 : Code := { maxStack := 2, maxLocals := 2, code := jdk_29_method_65_code, exceptionTable := #[], attributes := #[] }
def k7m1 : Method := { name := "max", desc := "(II)I", sig := { parameters := [.int, .int], returnType := some .int }, accessFlags := 9, code := some k7c1 }
/-- java/lang/Math -/
def k7 : Class := { plain "java/lang/Math" (some 0) with
  accessFlags := 49
  interfaces := #[]
  cf := some (fileOf pool7 1 #[.nestMembers #[98]] #[{ accessFlags := 2, nameIndex := 7, descriptorIndex := 8, attributes := #[] }, { accessFlags := 9, nameIndex := 198, descriptorIndex := 335, attributes := #[] }] 49 4 #[] #[{ accessFlags := 25, nameIndex := 354, descriptorIndex := 339, attributes := #[] }, { accessFlags := 25, nameIndex := 358, descriptorIndex := 339, attributes := #[] }, { accessFlags := 25, nameIndex := 361, descriptorIndex := 339, attributes := #[] }, { accessFlags := 26, nameIndex := 364, descriptorIndex := 339, attributes := #[] }, { accessFlags := 26, nameIndex := 365, descriptorIndex := 339, attributes := #[] }, { accessFlags := 26, nameIndex := 172, descriptorIndex := 173, attributes := #[] }, { accessFlags := 26, nameIndex := 176, descriptorIndex := 173, attributes := #[] }, { accessFlags := 8, nameIndex := 344, descriptorIndex := 339, attributes := #[] }, { accessFlags := 8, nameIndex := 338, descriptorIndex := 339, attributes := #[] }, { accessFlags := 4120, nameIndex := 245, descriptorIndex := 246, attributes := #[] }])
  fields := #[{ name := "E", type := .double, accessFlags := 25, slot := 0, constantValue := 0 }, { name := "PI", type := .double, accessFlags := 25, slot := 1, constantValue := 0 }, { name := "TAU", type := .double, accessFlags := 25, slot := 2, constantValue := 0 }, { name := "DEGREES_TO_RADIANS", type := .double, accessFlags := 26, slot := 3, constantValue := 0 }, { name := "RADIANS_TO_DEGREES", type := .double, accessFlags := 26, slot := 4, constantValue := 0 }, { name := "negativeZeroFloatBits", type := .long, accessFlags := 26, slot := 5, constantValue := 0 }, { name := "negativeZeroDoubleBits", type := .long, accessFlags := 26, slot := 6, constantValue := 0 }, { name := "twoToTheDoubleScaleUp", type := .double, accessFlags := 8, slot := 7, constantValue := 0 }, { name := "twoToTheDoubleScaleDown", type := .double, accessFlags := 8, slot := 8, constantValue := 0 }, { name := "$assertionsDisabled", type := .boolean, accessFlags := 4120, slot := 9, constantValue := 0 }]
  methods := #[k7m0, k7m1]
  instanceTypes := #[]
  staticTypes := #[.double, .double, .double, .double, .double, .long, .long, .double, .double, .boolean]
  resolved := Array.replicate 460 none
  statics := none }

def pool8 : Array CpInfo := pool [(1, u "java/lang/Cloneable"), (0, .class_ 1), (0, u "java/lang/Object"), (0, .class_ 3)] 3

/-- java/lang/Cloneable -/
def k8 : Class := { plain "java/lang/Cloneable" (some 0) with
  accessFlags := 1537
  interfaces := #[]
  cf := some (fileOf pool8 2 #[] #[] 1537 4 #[] #[])
  fields := #[]
  methods := #[]
  instanceTypes := #[]
  staticTypes := #[]
  resolved := Array.replicate 8 none
  statics := none }

/-- the primitive byte -/
def k9 : Class := { plain "byte" none with kind := .primitive 'B', accessFlags := 0x411 }
/-- [B -/
def k10 : Class := { plain "[B" (some 0) with kind := .array 9 .byte, interfaces := #[8, 4], accessFlags := 1041 }

/-- the primitive int -/
def k11 : Class := { plain "int" none with kind := .primitive 'I', accessFlags := 0x411 }
/-- [I -/
def k12 : Class := { plain "[I" (some 0) with kind := .array 11 .int, interfaces := #[8, 4], accessFlags := 1041 }

def heap : Heap := #[{ cls := 6, slots := #[.ref 1, .ref 2, .ref 3, .null], vm := .statics 6 },
  { cls := 6, slots := #[.null, .int 0, .int 0], vm := .none },
  { cls := 6, slots := #[.null, .int 1, .int 0], vm := .none },
  { cls := 6, slots := #[.null, .int 2, .int 0], vm := .none }]
def classes : Array Class := #[k0, k1, k2, k3, k4, k5, k6, k7, k8, k9, k10, k11, k12]
def interned : List (Array UInt16 × Addr) := []
def slotsUsed : Nat := 13
def theMethod : MethodId := ⟨1, 3⟩
def args0 : Array Value := #[.int 5, .int 3]
def aboutOver (below : List Frame) : State where
  vm := { classes := classes, interned := interned.toArray }
  heap := heap
  slotsUsed := slotsUsed
  threads := #[{ frames := .invoking theMethod args0 :: below }]
def below0 : List Frame := [.native { method := ⟨0, 0⟩, args := #[] }]
def about1 : State := aboutOver below0
def p0 : Program := .bare "" "" ""
def e0 : Env := launch0.env 0 0 0
theorem w_frames : about1.frames = Frame.invoking theMethod args0 :: below0 := rfl
set_option maxRecDepth 65536 in
theorem w_args : argsFit about1.vm theMethod args0 = true := by decide +kernel
set_option maxRecDepth 65536 in
theorem w_heap : heapFits about1 = true := by decide +kernel
set_option maxRecDepth 65536 in
theorem w_runnable : about1.curStatus? = some .runnable := by decide +kernel
set_option maxRecDepth 65536 in
theorem w_alone : about1.alone = true := by decide +kernel
set_option maxRecDepth 65536 in
theorem w_named : about1.methodNamed? x = some theMethod := by decide +kernel
set_option maxRecDepth 65536 in
theorem w_hears : about1.hears theMethod below0 = true := by decide +kernel
set_option maxRecDepth 65536 in
theorem w_ripe : about1.ripe theMethod args0 below0 = true := by decide +kernel
theorem w_running : about1.status = .running := rfl
set_option maxRecDepth 65536 in
theorem w_room : about1.hasRoom e0.platform room_1 = true :=
  launch0.hasRoom_least _ room_1 (by decide +kernel) (by decide +kernel) (by decide +kernel) (by decide +kernel) (by decide +kernel) (by decide +kernel)
theorem allAtoms_all (ts : List Jvm.Cond) (a : Array Jvm.Value) (st : Jvm.State) : (allAtoms ts).before a st = ts.all (fun c => c.before a st) := by
  induction ts with
  | nil => rfl
  | cons c t ih =>
    show (Jvm.Cond.and c (allAtoms t)).before a st = _
    rw [Jvm.Cond.before_and, ih, List.all_cons]
def words1 : List Jvm.Cond := Jvm.Cond.code x code maxLocals ret :: tables_1
/-- a 'code' word, met by the world's own term for the bytes: nothing is compared byte by byte -/
theorem code_word {y : MethodName} {bytes : ByteArray} {mx : Nat} {rt : Option FieldType} {a : Array Value} {s : State} {m : MethodId} {meth : Method} {c : Code} (h1 : s.methodNamed? y = some m) (h2 : s.vm.method? m = some meth) (h3 : meth.code = some c) (h4 : c.code = bytes)
    (h5 : (c.maxLocals == mx && c.exceptionTable.isEmpty && decide (c.maxStack ≤ mostOperands) && decide (meth.sig.returnType = rt) && !meth.locks && decide (parseMethodDescriptor y.desc = some meth.sig)) = true) : (Jvm.Cond.code y bytes mx rt).before a s = true := by
  simp only [Bool.and_eq_true, beq_iff_eq, Bool.not_eq_true', decide_eq_true_eq] at h5
  obtain ⟨⟨⟨⟨⟨g1, g2⟩, g3⟩, g4⟩, g5⟩, g6⟩ := h5
  simp [Cond.before, Cond.holds, Cond.value, h1, h2, h3, h4, g1, g2, g3, g4, g5, g6]
def isCode : Jvm.Cond → Bool
  | .code _ _ _ _ => true
  | _ => false
theorem all_split {L : List Jvm.Cond} {P : Jvm.Cond → Bool} (h1 : L.all (fun c => isCode c || P c) = true) (h2 : ∀ c ∈ L.filter isCode, P c = true) : L.all P = true := by
  refine List.all_eq_true.mpr fun c hc => ?_
  have h := List.all_eq_true.mp h1 c hc
  rcases Bool.eq_false_or_eq_true (isCode c) with hi | hi
  · exact h2 c (List.mem_filter.mpr ⟨hc, hi⟩)
  · simpa [hi] using h
set_option maxRecDepth 65536 in
theorem w_c0 : (Jvm.Cond.code x code maxLocals ret).before args0 about1 = true := code_word (m := ⟨1, 3⟩) (meth := k1m3) (c := k1c3) (by decide +kernel) rfl rfl rfl (by decide +kernel)
set_option maxRecDepth 65536 in
theorem w_c1 : (Jvm.Cond.code ({ cls := "com/example/contribution/contribution/query/TruthOrPinLaw", name := "pick", desc := "(I)Lcom/example/contribution/contribution/query/Truth;" } : Jvm.MethodName) method_2_code (1 : Nat) (Option.some (Jvm.ClassFile.FieldType.object "com/example/contribution/contribution/query/Truth"))).before args0 about1 = true := code_word (m := ⟨1, 1⟩) (meth := k1m1) (c := k1c1) (by decide +kernel) rfl rfl rfl (by decide +kernel)
set_option maxRecDepth 65536 in
theorem w_c2 : (Jvm.Cond.code ({ cls := "com/example/contribution/contribution/query/Truth", name := "or", desc := "(Lcom/example/contribution/contribution/query/Truth;)Lcom/example/contribution/contribution/query/Truth;" } : Jvm.MethodName) prog_43_method_6_code (3 : Nat) (Option.some (Jvm.ClassFile.FieldType.object "com/example/contribution/contribution/query/Truth"))).before args0 about1 = true := code_word (m := ⟨6, 0⟩) (meth := k6m0) (c := k6c0) (by decide +kernel) rfl rfl rfl (by decide +kernel)
set_option maxRecDepth 65536 in
theorem w_c3 : (Jvm.Cond.code ({ cls := "com/example/contribution/contribution/query/TruthOrPinLaw", name := "rank", desc := "(Lcom/example/contribution/contribution/query/Truth;)I" } : Jvm.MethodName) method_3_code (1 : Nat) (Option.some Jvm.ClassFile.FieldType.int)).before args0 about1 = true := code_word (m := ⟨1, 2⟩) (meth := k1m2) (c := k1c2) (by decide +kernel) rfl rfl rfl (by decide +kernel)
set_option maxRecDepth 65536 in
theorem w_c4 : (Jvm.Cond.code ({ cls := "java/lang/Math", name := "max", desc := "(II)I" } : Jvm.MethodName) jdk_29_method_65_code (2 : Nat) (Option.some Jvm.ClassFile.FieldType.int)).before args0 about1 = true := code_word (m := ⟨7, 1⟩) (meth := k7m1) (c := k7c1) (by decide +kernel) rfl rfl rfl (by decide +kernel)
def codes1 : List Jvm.Cond := [Jvm.Cond.code x code maxLocals ret, Jvm.Cond.code ({ cls := "com/example/contribution/contribution/query/TruthOrPinLaw", name := "pick", desc := "(I)Lcom/example/contribution/contribution/query/Truth;" } : Jvm.MethodName) method_2_code (1 : Nat) (Option.some (Jvm.ClassFile.FieldType.object "com/example/contribution/contribution/query/Truth")), Jvm.Cond.code ({ cls := "com/example/contribution/contribution/query/Truth", name := "or", desc := "(Lcom/example/contribution/contribution/query/Truth;)Lcom/example/contribution/contribution/query/Truth;" } : Jvm.MethodName) prog_43_method_6_code (3 : Nat) (Option.some (Jvm.ClassFile.FieldType.object "com/example/contribution/contribution/query/Truth")), Jvm.Cond.code ({ cls := "com/example/contribution/contribution/query/TruthOrPinLaw", name := "rank", desc := "(Lcom/example/contribution/contribution/query/Truth;)I" } : Jvm.MethodName) method_3_code (1 : Nat) (Option.some Jvm.ClassFile.FieldType.int), Jvm.Cond.code ({ cls := "java/lang/Math", name := "max", desc := "(II)I" } : Jvm.MethodName) jdk_29_method_65_code (2 : Nat) (Option.some Jvm.ClassFile.FieldType.int)]
set_option maxRecDepth 65536 in
theorem codes_eq : words1.filter isCode = codes1 := rfl
theorem w_codes : ∀ c ∈ words1.filter isCode, c.before args0 about1 = true := by
  rw [codes_eq]
  intro c hc
  simp only [codes1, List.mem_cons, List.not_mem_nil, or_false] at hc
  rcases hc with rfl | rfl | rfl | rfl | rfl
  · exact w_c0
  · exact w_c1
  · exact w_c2
  · exact w_c3
  · exact w_c4
set_option maxRecDepth 65536 in
theorem w_t1 : (words1.take 24).all (fun c => isCode c || c.before args0 about1) = true := by decide +kernel
set_option maxRecDepth 65536 in
theorem w_t2 : (words1.drop 24).all (fun c => isCode c || c.before args0 about1) = true := by decide +kernel
theorem w_tables : (allAtoms (Jvm.Cond.code x code maxLocals ret :: tables_1)).before args0 about1 = true := by
  rw [allAtoms_all]
  show words1.all (fun c => c.before args0 about1) = true
  refine all_split ?_ w_codes
  rw [← List.take_append_drop 24 words1, List.all_append, w_t1, w_t2]
  rfl
set_option maxRecDepth 65536 in
theorem w_case : (Jvm.Cond.and given_1 narrow_1).before args0 about1 = true := by decide +kernel
theorem w_applies : (headSpec (Jvm.Cond.code x code maxLocals ret :: tables_1) room_1).applies x e0.platform about1 = true :=
  (Spec.applies_iff w_frames).mpr ⟨w_running, w_runnable, w_alone, w_named, w_hears, w_ripe, w_room, w_tables⟩
theorem atStart : AtStart classFile x code maxLocals ret World_1 tables_1 room_1 Calls_1 rest_1 Pre_1 launch0 p0 e0 about1 theMethod args0 below0 :=
  ⟨lists_1, trivial, launch0.admits_env _ _ _, launch0.least_env, fairChoices_fair.cas, fairChoices_fair.clock, w_frames, w_args, w_heap, w_applies, trivial, trivial, w_case⟩
end start1
theorem witness_1 : WitnessClaimed_1 := ⟨start1.p0, start1.e0, start1.about1, start1.theMethod, start1.args0, start1.below0, start1.atStart⟩
end Jvm.Pilot.@@N@@
