import JvmDerived
import JvmDerived.Pilot.@@N@@Statement
import JvmDerived.Pilot.@@N@@Code
set_option linter.unusedVariables false
set_option linter.unusedSimpArgs false
namespace Jvm.Pilot.@@N@@
open Jvm Jvm.ClassFile Sem Op Lib Jvm.Free Jvm.Stand Jvm.LawKit Jvm.RoadKit Bundle Jvm.Pilot.@@N@@.Jvm.D
section OwnKit
variable {p : Program} {l : Launch} {e : Env} {R : Room} {s : State} {m : MethodId} {args : Array Value} {below : List Frame} {meth : Method} {c : Code} {T : State} {locs : List Loc} {cells slots kc ks : Nat} {Z : State} {a0 : Array Value} {own nm : String} {bytes : ByteArray} {ml : Nat} {ret : Option FieldType} {Q : Option Value → Heap → Prop} {h h' : Heap} {pc pc' : Nat} {ls ls' : Array Slot} {st st' rest : List Value}
/-- what is left to show where the run stands at S -/
def OGoal (p : Program) (e : Env) (below : List Frame) (s : State) (kc ks n0 : Nat) (Q : Option Value → Heap → Prop) (S : State) : Prop :=
  ∃ s₂ o, Steps p.tables e below S s₂ ∧ s₂.status = .running ∧ Ended s₂ below o ∧ ∃ v L, o = .returned v ∧ ((Q v s₂.heap ∧ s.heap.size ≤ s₂.heap.size) ∧ Fr n0 L) ∧ FrameEnd s o s₂ L kc ks
theorem OGoal.via {n0 : Nat} {S S' : State} (hs : ∀ t, Steps p.tables e below S' t → Steps p.tables e below S t) (g : OGoal p e below s kc ks n0 Q S') : OGoal p e below s kc ks n0 Q S := by
  obtain ⟨s2, o, h1, r⟩ := g
  exact ⟨s2, o, hs _ h1, r⟩
/-- what holds throughout a body -/
def OCtx (p : Program) (s : State) (m : MethodId) (meth : Method) (c : Code) (Z : State) (own nm : String) (bytes : ByteArray) (ml : Nat) (ret : Option FieldType) : Prop :=
  p.tables.exec = Jvm.exec ∧ Z.Warmed39 s.vm ∧ s.vm.findClass own = some m.cls ∧ c.code = bytes ∧ c.maxLocals = ml ∧ meth.sig.returnType = ret ∧ meth.locks = false ∧ meth.name = nm ∧ Ext Z.heap s.heap
/-- from every state with the heap h whose top frame is g the body comes to its end -/
def OG (p : Program) (l : Launch) (e : Env) (R : Room) (s : State) (m : MethodId) (args : Array Value) (below : List Frame) (meth : Method) (c : Code) (Z : State) (own nm : String) (bytes : ByteArray) (ml : Nat) (ret : Option FieldType) (Q : Option Value → Heap → Prop) (kc ks : Nat) (h : Heap) (cells slots : Nat) (g : JFrame) : Prop :=
  OCtx p s m meth c Z own nm bytes ml ret → ∀ T locs, Stand p l e R s m args below meth c T locs cells slots → T.heap = h → Fr Z.heap.size locs → OGoal p e below s kc ks Z.heap.size Q (T.setTop g)
theorem own_ext (X : Stand p l e R s m args below meth c T locs cells slots) (E : Ext Z.heap s.heap) (N : Fr Z.heap.size locs) : Ext Z.heap T.heap := by
  have q := X.same
  refine ⟨Nat.le_trans E.1 q.2.1, fun a cl hc => ?_⟩
  obtain ⟨c', h1, h2, h3, h4⟩ := q.2.2.2.2.2 a cl (E.2 a cl hc)
  have ha : a < Z.heap.size := (Array.getElem?_eq_some_iff.mp hc).1
  have e1 : c'.slots = cl.slots := Array.ext_getElem? fun i => h4 i fun hm => absurd (N _ hm) (Nat.not_le.mpr ha)
  rw [e1] at h2
  have e2 : c' = cl := h2
  rw [← e2]
  exact h1
/-- the contract of a body, at its arguments and heap -/
def OCtr (l : Launch) (Z : State) (y : MethodName) (yb : ByteArray) (yl : Nat) (yr : Option FieldType) (rm : Room) (as' : Array Value) (h0 : Heap) (yQ : Option Value → Heap → Prop) : Prop :=
  ∀ ws : List Jvm.Cond, MetFree l y (head1 (Jvm.Cond.code y yb yl yr :: ws) rm) (fun a U => a = as' ∧ Z.Warmed39 U.vm ∧ U.heap = h0) (fun _ _ _ _ _ => True) (fun _ U o U' => ∃ v L, o = .returned v ∧ ((yQ v U'.heap ∧ h0.size ≤ U'.heap.size) ∧ Fr Z.heap.size L) ∧ FrameEnd U o U' L rm.cells rm.slots)
theorem o_body {y : MethodName} {yb : ByteArray} {yl : Nat} {yr : Option FieldType} {rm : Room} {as' : Array Value} {h0 : Heap} {yQ : Option Value → Heap → Prop} {ls0 : Array Slot} (hpl : plainFor y = true) (hE : Ext Z.heap h0)
    (hef : ∀ m : MethodId, entryFrame m as' yl = mkF m 0 ls0 [])
    (k : ∀ (p : Program) (e : Env) (s : State) (m : MethodId) (below : List Frame) (meth : Method) (c : Code), OG p l e rm s m as' below meth c Z y.cls y.name yb yl yr yQ rm.cells rm.slots h0 0 0 (mkF m 0 ls0 [])) : OCtr l Z y yb yl yr rm as' h0 yQ := by
  intro ws
  refine MetFree.of_bodySF hpl hisR ?_
  intro p e s m args below meth c s₁ Bd hml0 hP hK
  obtain ⟨rfl, hZ, hh⟩ := hP
  have X0 : Stand p l e rm s m args below meth c s₁ [] 0 0 := Stand.of_body Bd
  have e0 : s₁.heap = h0 := by rw [← hh, Bd.state]; rfl
  have g := k p e s m below meth c ⟨Bd.exec, hZ, findClass_of_methodNamed Bd.named, Bd.bytes, hml0, Bd.returns, Bd.notSynchronized, (name_of_methodNamed Bd.named Bd.method).1, by rw [hh]; exact hE⟩ s₁ [] X0 e0 (Fr.nil _)
  rw [hef]
  rw [← hh]
  exact g
/-- a single step that leaves the heap -/
theorem o_pure {n : Nat} {i : Instr} (hd : decode bytes pc = .ok (i, n)) (hs : ∀ (T : State) (locs : List Loc), Stand p l e R s m args below meth c T locs cells slots → p.tables.exec = Jvm.exec → decode c.code pc = .ok (i, n) → ∀ t, Steps p.tables e below (T.setTop (mkF m pc' ls' st')) t → Steps p.tables e below (T.setTop (mkF m pc ls st)) t)
    (k : OG p l e R s m args below meth c Z own nm bytes ml ret Q kc ks h cells slots (mkF m pc' ls' st')) : OG p l e R s m args below meth c Z own nm bytes ml ret Q kc ks h cells slots (mkF m pc ls st) := by
  intro C T locs X eT N
  exact OGoal.via (hs T locs X C.1 (hb C.2.2.2.1 hd)) (k C T locs X eT N)
/-! pure instructions, as one function -/
def oBI (f : Int32 → Int32 → Int32) (st : List Value) (ls : Array Slot) : Option (List Value × Array Slot) :=
  match st with
  | .int y :: .int x :: r => some (.int (f x y) :: r, ls)
  | _ => none
def oBL (f : Int64 → Int64 → Int64) (st : List Value) (ls : Array Slot) : Option (List Value × Array Slot) :=
  match st with
  | .long y :: .long x :: r => some (.long (f x y) :: r, ls)
  | _ => none
def oBLI (f : Int64 → Int32 → Int64) (st : List Value) (ls : Array Slot) : Option (List Value × Array Slot) :=
  match st with
  | .int y :: .long x :: r => some (.long (f x y) :: r, ls)
  | _ => none
def oUI (f : Int32 → Int32) (st : List Value) (ls : Array Slot) : Option (List Value × Array Slot) :=
  match st with
  | .int x :: r => some (.int (f x) :: r, ls)
  | _ => none
def oLdI (k : Nat) (st : List Value) (ls : Array Slot) : Option (List Value × Array Slot) :=
  match ls[k]? with
  | some (.val (.int v)) => some (.int v :: st, ls)
  | _ => none
def oLdL (k : Nat) (st : List Value) (ls : Array Slot) : Option (List Value × Array Slot) :=
  match ls[k]? with
  | some (.val (.long v)) => some (.long v :: st, ls)
  | _ => none
def oLdA (k : Nat) (st : List Value) (ls : Array Slot) : Option (List Value × Array Slot) :=
  match ls[k]? with
  | some (.val (.ref v)) => some (.ref v :: st, ls)
  | some (.val .null) => some (.null :: st, ls)
  | _ => none
def oStI (k : Nat) (st : List Value) (ls : Array Slot) : Option (List Value × Array Slot) :=
  match st with
  | .int v :: r => (storeLocals ls k (.int v)).map fun l' => (r, l')
  | _ => none
def oStL (k : Nat) (st : List Value) (ls : Array Slot) : Option (List Value × Array Slot) :=
  match st with
  | .long v :: r => (storeLocals ls k (.long v)).map fun l' => (r, l')
  | _ => none
def oStA (k : Nat) (st : List Value) (ls : Array Slot) : Option (List Value × Array Slot) :=
  match st with
  | .ref v :: r => (storeLocals ls k (.ref v)).map fun l' => (r, l')
  | .null :: r => (storeLocals ls k .null).map fun l' => (r, l')
  | _ => none
def oInc (k : Nat) (q : Int) (st : List Value) (ls : Array Slot) : Option (List Value × Array Slot) :=
  match ls[k]? with
  | some (.val (.int v)) => (storeLocals ls k (.int (v + Int32.ofInt q))).map fun l' => (st, l')
  | _ => none
def oI2L (st : List Value) (ls : Array Slot) : Option (List Value × Array Slot) :=
  match st with
  | .int x :: r => some (.long x.toInt64 :: r, ls)
  | _ => none
def oL2I (st : List Value) (ls : Array Slot) : Option (List Value × Array Slot) :=
  match st with
  | .long x :: r => some (.int x.toInt32 :: r, ls)
  | _ => none
def oCmp (st : List Value) (ls : Array Slot) : Option (List Value × Array Slot) :=
  match st with
  | .long y :: .long x :: r => some (.int (XT.cmpL x y) :: r, ls)
  | _ => none
def oDup (st : List Value) (ls : Array Slot) : Option (List Value × Array Slot) :=
  match st with
  | .int x :: r => some (.int x :: .int x :: r, ls)
  | .ref x :: r => some (.ref x :: .ref x :: r, ls)
  | _ => none
def oPop (st : List Value) (ls : Array Slot) : Option (List Value × Array Slot) :=
  match st with
  | .int _ :: r => some (r, ls)
  | .ref _ :: r => some (r, ls)
  | .null :: r => some (r, ls)
  | _ => none
def oLen : Instr → Nat
  | .iload _ | .lload _ | .aload _ | .istore _ | .lstore _ | .astore _ | .bipush _ => 2
  | .sipush _ | .iinc _ _ => 3
  | _ => 1
def opS (i : Instr) (st : List Value) (ls : Array Slot) : Option (List Value × Array Slot) :=
  match i with
  | .iconst k => some (.int (Int32.ofInt k) :: st, ls)
  | .bipush k => some (.int (Int8.ofInt k).toInt32 :: st, ls)
  | .sipush k => some (.int (Int16.ofInt k).toInt32 :: st, ls)
  | .lconst k => some (.long (Int64.ofNat k) :: st, ls)
  | .aconst_null => some (.null :: st, ls)
  | .iload k => oLdI k st ls
  | .iload_n k => oLdI k.val st ls
  | .lload k => oLdL k st ls
  | .lload_n k => oLdL k.val st ls
  | .aload k => oLdA k st ls
  | .aload_n k => oLdA k.val st ls
  | .istore k => oStI k st ls
  | .istore_n k => oStI k.val st ls
  | .lstore k => oStL k st ls
  | .lstore_n k => oStL k.val st ls
  | .astore k => oStA k st ls
  | .astore_n k => oStA k.val st ls
  | .iinc k q => oInc k q st ls
  | .iadd => oBI (fun x y => x + y) st ls
  | .isub => oBI (fun x y => x - y) st ls
  | .imul => oBI (fun x y => x * y) st ls
  | .iand => oBI (fun x y => x &&& y) st ls
  | .ior => oBI (fun x y => x ||| y) st ls
  | .ixor => oBI (fun x y => x ^^^ y) st ls
  | .ishl => oBI (fun x y => x <<< (y &&& 31)) st ls
  | .ishr => oBI (fun x y => x >>> (y &&& 31)) st ls
  | .iushr => oBI (fun x y => XT.ushr x y) st ls
  | .ladd => oBL (fun x y => x + y) st ls
  | .lsub => oBL (fun x y => x - y) st ls
  | .lmul => oBL (fun x y => x * y) st ls
  | .land => oBL (fun x y => x &&& y) st ls
  | .lor => oBL (fun x y => x ||| y) st ls
  | .lxor => oBL (fun x y => x ^^^ y) st ls
  | .lshl => oBLI (fun x y => x <<< (y.toInt64 &&& 63)) st ls
  | .lshr => oBLI (fun x y => x >>> (y.toInt64 &&& 63)) st ls
  | .lushr => oBLI (fun x y => XT.ushrL x y) st ls
  | .i2b => oUI (fun x => x.toInt8.toInt32) st ls
  | .i2c => oUI (fun x => x.toUInt32.toUInt16.toUInt32.toInt32) st ls
  | .i2s => oUI (fun x => x.toInt16.toInt32) st ls
  | .ineg => oUI (fun x => -x) st ls
  | .i2l => oI2L st ls
  | .l2i => oL2I st ls
  | .lcmp => oCmp st ls
  | .dup => oDup st ls
  | .pop => oPop st ls
  | _ => none
/-- the instructions from pc on, one behind the other; what stands behind them -/
def oBlk (code : ByteArray) : Nat → List Instr → Option Nat
  | pc, [] => some pc
  | pc, i :: is => if decode code pc = .ok (i, oLen i) then oBlk code (pc + oLen i) is else none
def oRun : List Instr → List Value → Array Slot → Option (List Value × Array Slot)
  | [], st, ls => some (st, ls)
  | i :: is, st, ls => match opS i st ls with
    | some (st', ls') => oRun is st' ls'
    | none => none
theorem oBI_inv {f : Int32 → Int32 → Int32} {r : List Value × Array Slot} (q : oBI f st ls = some r) : ∃ x y t, st = .int y :: .int x :: t ∧ r = (.int (f x y) :: t, ls) := by
  unfold oBI at q
  split at q
  · exact ⟨_, _, _, rfl, (Option.some.inj q).symm⟩
  · cases q
theorem oBL_inv {f : Int64 → Int64 → Int64} {r : List Value × Array Slot} (q : oBL f st ls = some r) : ∃ x y t, st = .long y :: .long x :: t ∧ r = (.long (f x y) :: t, ls) := by
  unfold oBL at q
  split at q
  · exact ⟨_, _, _, rfl, (Option.some.inj q).symm⟩
  · cases q
theorem oBLI_inv {f : Int64 → Int32 → Int64} {r : List Value × Array Slot} (q : oBLI f st ls = some r) : ∃ x y t, st = .int y :: .long x :: t ∧ r = (.long (f x y) :: t, ls) := by
  unfold oBLI at q
  split at q
  · exact ⟨_, _, _, rfl, (Option.some.inj q).symm⟩
  · cases q
theorem oUI_inv {f : Int32 → Int32} {r : List Value × Array Slot} (q : oUI f st ls = some r) : ∃ x t, st = .int x :: t ∧ r = (.int (f x) :: t, ls) := by
  unfold oUI at q
  split at q
  · exact ⟨_, _, rfl, (Option.some.inj q).symm⟩
  · cases q
theorem oLdI_inv {k : Nat} {r : List Value × Array Slot} (q : oLdI k st ls = some r) : ∃ v, ls[k]? = some (.val (.int v)) ∧ r = (.int v :: st, ls) := by
  unfold oLdI at q
  split at q
  · next v hv => exact ⟨v, hv, (Option.some.inj q).symm⟩
  · cases q
theorem oLdL_inv {k : Nat} {r : List Value × Array Slot} (q : oLdL k st ls = some r) : ∃ v, ls[k]? = some (.val (.long v)) ∧ r = (.long v :: st, ls) := by
  unfold oLdL at q
  split at q
  · next v hv => exact ⟨v, hv, (Option.some.inj q).symm⟩
  · cases q
theorem oLdA_inv {k : Nat} {r : List Value × Array Slot} (q : oLdA k st ls = some r) : ∃ v, ls[k]? = some (.val v) ∧ v.isRef = true ∧ r = (v :: st, ls) := by
  unfold oLdA at q
  split at q
  · next v hv => exact ⟨.ref v, hv, rfl, (Option.some.inj q).symm⟩
  · next hv => exact ⟨.null, hv, rfl, (Option.some.inj q).symm⟩
  · cases q
theorem own_map {o : Option (Array Slot)} {t : List Value} {r : List Value × Array Slot} (q : o.map (fun l' => (t, l')) = some r) : ∃ l', o = some l' ∧ r = (t, l') := by
  cases o with
  | none => cases q
  | some l' => exact ⟨l', rfl, (Option.some.inj q).symm⟩
theorem oStI_inv {k : Nat} {r : List Value × Array Slot} (q : oStI k st ls = some r) : ∃ v t l', st = .int v :: t ∧ storeLocals ls k (.int v) = some l' ∧ r = (t, l') := by
  unfold oStI at q
  split at q
  · obtain ⟨l', h1, h2⟩ := own_map q; exact ⟨_, _, l', rfl, h1, h2⟩
  · cases q
theorem oStL_inv {k : Nat} {r : List Value × Array Slot} (q : oStL k st ls = some r) : ∃ v t l', st = .long v :: t ∧ storeLocals ls k (.long v) = some l' ∧ r = (t, l') := by
  unfold oStL at q
  split at q
  · obtain ⟨l', h1, h2⟩ := own_map q; exact ⟨_, _, l', rfl, h1, h2⟩
  · cases q
theorem oStA_inv {k : Nat} {r : List Value × Array Slot} (q : oStA k st ls = some r) : ∃ v t l', st = v :: t ∧ v.isRef = true ∧ storeLocals ls k v = some l' ∧ r = (t, l') := by
  unfold oStA at q
  split at q
  · obtain ⟨l', h1, h2⟩ := own_map q; exact ⟨_, _, l', rfl, rfl, h1, h2⟩
  · obtain ⟨l', h1, h2⟩ := own_map q; exact ⟨_, _, l', rfl, rfl, h1, h2⟩
  · cases q
theorem oInc_inv {k : Nat} {z : Int} {r : List Value × Array Slot} (q : oInc k z st ls = some r) : ∃ v l', ls[k]? = some (.val (.int v)) ∧ storeLocals ls k (.int (v + Int32.ofInt z)) = some l' ∧ r = (st, l') := by
  unfold oInc at q
  split at q
  · next v hv => obtain ⟨l', h1, h2⟩ := own_map q; exact ⟨v, l', hv, h1, h2⟩
  · cases q
theorem oI2L_inv {r : List Value × Array Slot} (q : oI2L st ls = some r) : ∃ x t, st = .int x :: t ∧ r = (.long x.toInt64 :: t, ls) := by
  unfold oI2L at q
  split at q
  · exact ⟨_, _, rfl, (Option.some.inj q).symm⟩
  · cases q
theorem oL2I_inv {r : List Value × Array Slot} (q : oL2I st ls = some r) : ∃ x t, st = .long x :: t ∧ r = (.int x.toInt32 :: t, ls) := by
  unfold oL2I at q
  split at q
  · exact ⟨_, _, rfl, (Option.some.inj q).symm⟩
  · cases q
theorem oCmp_inv {r : List Value × Array Slot} (q : oCmp st ls = some r) : ∃ x y t, st = .long y :: .long x :: t ∧ r = (.int (XT.cmpL x y) :: t, ls) := by
  unfold oCmp at q
  split at q
  · exact ⟨_, _, _, rfl, (Option.some.inj q).symm⟩
  · cases q
theorem oDup_inv {r : List Value × Array Slot} (q : oDup st ls = some r) : ∃ x t, st = x :: t ∧ x.category = 1 ∧ r = (x :: x :: t, ls) := by
  unfold oDup at q
  split at q
  · exact ⟨_, _, rfl, rfl, (Option.some.inj q).symm⟩
  · exact ⟨_, _, rfl, rfl, (Option.some.inj q).symm⟩
  · cases q
theorem oPop_inv {r : List Value × Array Slot} (q : oPop st ls = some r) : ∃ x t, st = x :: t ∧ x.category = 1 ∧ r = (t, ls) := by
  unfold oPop at q
  split at q
  · exact ⟨_, _, rfl, rfl, (Option.some.inj q).symm⟩
  · exact ⟨_, _, rfl, rfl, (Option.some.inj q).symm⟩
  · exact ⟨_, _, rfl, rfl, (Option.some.inj q).symm⟩
  · cases q
theorem o_op {i : Instr} (hd : decode bytes pc = .ok (i, oLen i)) (q : opS i st ls = some (st', ls'))
    (k : OG p l e R s m args below meth c Z own nm bytes ml ret Q kc ks h cells slots (mkF m (pc + oLen i) ls' st')) : OG p l e R s m args below meth c Z own nm bytes ml ret Q kc ks h cells slots (mkF m pc ls st) := by
  refine o_pure hd (fun T locs X hx hd t kk => ?_) k
  cases i with
  | iconst z => cases q; exact XS.iconst X.here hx rfl hd kk
  | bipush z => cases q; exact XS.bipush X.here hx rfl hd kk
  | sipush z => cases q; exact XS.sipush X.here hx rfl hd kk
  | lconst z => cases q; exact XT.lconst X.here hx rfl hd kk
  | aconst_null => cases q; exact XS.aconstNull X.here hx rfl hd kk
  | iload z => obtain ⟨v, h1, h3⟩ := oLdI_inv q; cases h3; exact XS.iload X.here hx rfl hd h1 kk
  | iload_n z => obtain ⟨v, h1, h3⟩ := oLdI_inv q; cases h3; exact XS.iloadN X.here hx rfl hd h1 kk
  | lload z => obtain ⟨v, h1, h3⟩ := oLdL_inv q; cases h3; exact XT.lload X.here hx rfl hd h1 kk
  | lload_n z => obtain ⟨v, h1, h3⟩ := oLdL_inv q; cases h3; exact XT.lloadN X.here hx rfl hd h1 kk
  | aload z => obtain ⟨v, h1, h2, h3⟩ := oLdA_inv q; cases h3; exact XS.aload X.here hx rfl hd h1 h2 kk
  | aload_n z => obtain ⟨v, h1, h2, h3⟩ := oLdA_inv q; cases h3; exact XS.aloadN X.here hx rfl hd h1 h2 kk
  | istore z => obtain ⟨v, r, l', rfl, h2, h3⟩ := oStI_inv q; cases h3; exact XS.istore X.here hx rfl hd rfl h2 kk
  | istore_n z => obtain ⟨v, r, l', rfl, h2, h3⟩ := oStI_inv q; cases h3; exact XS.istoreN X.here hx rfl hd rfl h2 kk
  | lstore z => obtain ⟨v, r, l', rfl, h2, h3⟩ := oStL_inv q; cases h3; exact XT.lstore X.here hx rfl hd rfl h2 kk
  | lstore_n z => obtain ⟨v, r, l', rfl, h2, h3⟩ := oStL_inv q; cases h3; exact XT.lstoreN X.here hx rfl hd rfl h2 kk
  | astore z => obtain ⟨v, r, l', rfl, h1, h2, h3⟩ := oStA_inv q; cases h3; exact XS.astore X.here hx rfl hd rfl h1 h2 kk
  | astore_n z => obtain ⟨v, r, l', rfl, h1, h2, h3⟩ := oStA_inv q; cases h3; exact XS.astoreN X.here hx rfl hd rfl h1 h2 kk
  | iinc z y => obtain ⟨v, l', h1, h2, h3⟩ := oInc_inv q; cases h3; exact XS.iinc X.here hx rfl hd h1 h2 kk
  | iadd => obtain ⟨x, y, r, rfl, h3⟩ := oBI_inv q; cases h3; exact XS.iadd X.here hx rfl hd rfl kk
  | isub => obtain ⟨x, y, r, rfl, h3⟩ := oBI_inv q; cases h3; exact XS.isub X.here hx rfl hd rfl kk
  | imul => obtain ⟨x, y, r, rfl, h3⟩ := oBI_inv q; cases h3; exact XS.imul X.here hx rfl hd rfl kk
  | iand => obtain ⟨x, y, r, rfl, h3⟩ := oBI_inv q; cases h3; exact XS.iand X.here hx rfl hd rfl kk
  | ior => obtain ⟨x, y, r, rfl, h3⟩ := oBI_inv q; cases h3; exact XT.ior X.here hx rfl hd rfl kk
  | ixor => obtain ⟨x, y, r, rfl, h3⟩ := oBI_inv q; cases h3; exact XT.ixor X.here hx rfl hd rfl kk
  | ishl => obtain ⟨x, y, r, rfl, h3⟩ := oBI_inv q; cases h3; exact XT.ishl X.here hx rfl hd rfl kk
  | ishr => obtain ⟨x, y, r, rfl, h3⟩ := oBI_inv q; cases h3; exact XT.ishr X.here hx rfl hd rfl kk
  | iushr => obtain ⟨x, y, r, rfl, h3⟩ := oBI_inv q; cases h3; exact XT.iushr X.here hx rfl hd rfl kk
  | ladd => obtain ⟨x, y, r, rfl, h3⟩ := oBL_inv q; cases h3; exact XT.ladd X.here hx rfl hd rfl kk
  | lsub => obtain ⟨x, y, r, rfl, h3⟩ := oBL_inv q; cases h3; exact XT.lsub X.here hx rfl hd rfl kk
  | lmul => obtain ⟨x, y, r, rfl, h3⟩ := oBL_inv q; cases h3; exact XT.lmul X.here hx rfl hd rfl kk
  | land => obtain ⟨x, y, r, rfl, h3⟩ := oBL_inv q; cases h3; exact XT.land X.here hx rfl hd rfl kk
  | lor => obtain ⟨x, y, r, rfl, h3⟩ := oBL_inv q; cases h3; exact XT.lor X.here hx rfl hd rfl kk
  | lxor => obtain ⟨x, y, r, rfl, h3⟩ := oBL_inv q; cases h3; exact XT.lxor X.here hx rfl hd rfl kk
  | lshl => obtain ⟨x, y, r, rfl, h3⟩ := oBLI_inv q; cases h3; exact XT.lshl X.here hx rfl hd rfl kk
  | lshr => obtain ⟨x, y, r, rfl, h3⟩ := oBLI_inv q; cases h3; exact XT.lshr X.here hx rfl hd rfl kk
  | lushr => obtain ⟨x, y, r, rfl, h3⟩ := oBLI_inv q; cases h3; exact XT.lushr X.here hx rfl hd rfl kk
  | i2b => obtain ⟨x, r, rfl, h3⟩ := oUI_inv q; cases h3; exact XT.i2b X.here hx rfl hd rfl kk
  | i2c => obtain ⟨x, r, rfl, h3⟩ := oUI_inv q; cases h3; exact XT.i2c X.here hx rfl hd rfl kk
  | i2s => obtain ⟨x, r, rfl, h3⟩ := oUI_inv q; cases h3; exact XT.i2s X.here hx rfl hd rfl kk
  | ineg => obtain ⟨x, r, rfl, h3⟩ := oUI_inv q; cases h3; exact XS.ineg X.here hx rfl hd rfl kk
  | i2l => obtain ⟨x, r, rfl, h3⟩ := oI2L_inv q; cases h3; exact XT.i2l X.here hx rfl hd rfl kk
  | l2i => obtain ⟨x, r, rfl, h3⟩ := oL2I_inv q; cases h3; exact XT.l2i X.here hx rfl hd rfl kk
  | lcmp => obtain ⟨x, y, r, rfl, h3⟩ := oCmp_inv q; cases h3; exact XT.lcmp X.here hx rfl hd rfl kk
  | dup => obtain ⟨x, r, rfl, hc, h3⟩ := oDup_inv q; cases h3; exact XS.dup X.here hx rfl hd rfl hc kk
  | pop => obtain ⟨x, r, rfl, hc, h3⟩ := oPop_inv q; cases h3; exact XT.pop X.here hx rfl hd rfl hc kk
  | _ => cases q
theorem o_blk : ∀ {is : List Instr} {pc : Nat} {st : List Value} {ls : Array Slot}, oBlk bytes pc is = some pc' → oRun is st ls = some (st', ls') →
    OG p l e R s m args below meth c Z own nm bytes ml ret Q kc ks h cells slots (mkF m pc' ls' st') → OG p l e R s m args below meth c Z own nm bytes ml ret Q kc ks h cells slots (mkF m pc ls st)
  | [], pc, st, ls, hb, hr, k => by
    cases hb; cases hr; exact k
  | i :: is, pc, st, ls, hb, hr, k => by
    unfold oBlk at hb
    split at hb
    · next hd =>
      unfold oRun at hr
      split at hr
      · next st1 ls1 hq => exact o_op hd hq (o_blk hb hr k)
      · cases hr
    · cases hb
/-! branches -/
def oC : ClassFile.Cond → Int32 → Int32 → Prop
  | .eq, x, y => x = y
  | .ne, x, y => ¬ x = y
  | .lt, x, y => x < y
  | .ge, x, y => ¬ x < y
  | .gt, x, y => y < x
  | .le, x, y => ¬ y < x
def oCn : ClassFile.Cond → Int32 → Int32 → Prop
  | .eq, x, y => ¬ x = y
  | .ne, x, y => x = y
  | .lt, x, y => ¬ x < y
  | .ge, x, y => x < y
  | .gt, x, y => ¬ y < x
  | .le, x, y => y < x
theorem oC_yes {cd : ClassFile.Cond} {x y : Int32} (q : oC cd x y) : if_icmp.holds cd x y = true := by
  cases cd
  · exact (teq q).1
  · exact (feq q).2
  · exact (tlt q).1
  · exact (flt q).2.1
  · exact (tlt q).2.2.1
  · exact (flt q).2.2.2
theorem oC_no {cd : ClassFile.Cond} {x y : Int32} (q : oCn cd x y) : if_icmp.holds cd x y = false := by
  cases cd
  · exact (feq q).1
  · exact (teq q).2
  · exact (flt q).1
  · exact (tlt q).2.1
  · exact (flt q).2.2.1
  · exact (tlt q).2.2.2
theorem oC_or (cd : ClassFile.Cond) (x y : Int32) : oC cd x y ∨ oCn cd x y := by
  cases cd
  · exact Classical.em _
  · exact (Classical.em (x = y)).symm
  · exact Classical.em _
  · exact (Classical.em (x < y)).symm
  · exact Classical.em _
  · exact (Classical.em (y < x)).symm
theorem o_ifY {cd : ClassFile.Cond} {o : Int} {x : Int32} (hd : decode bytes pc = .ok (.ifCond cd o, 3)) (ho : 0 ≤ (pc : Int) + o) (hp : ((pc : Int) + o).toNat = pc') (hc : oC cd x 0)
    (k : OG p l e R s m args below meth c Z own nm bytes ml ret Q kc ks h cells slots (mkF m pc' ls rest)) : OG p l e R s m args below meth c Z own nm bytes ml ret Q kc ks h cells slots (mkF m pc ls (.int x :: rest)) :=
  o_pure hd (fun T locs X hx hd t kk => XS.ifYes X.here hx rfl (pc0 := pc) rfl hd rfl (by rw [if0]; exact oC_yes hc) ho hp kk) k
theorem o_ifN {cd : ClassFile.Cond} {o : Int} {x : Int32} (hd : decode bytes pc = .ok (.ifCond cd o, 3)) (hp : pc + 3 = pc') (hc : oCn cd x 0)
    (k : OG p l e R s m args below meth c Z own nm bytes ml ret Q kc ks h cells slots (mkF m pc' ls rest)) : OG p l e R s m args below meth c Z own nm bytes ml ret Q kc ks h cells slots (mkF m pc ls (.int x :: rest)) :=
  o_pure hd (fun T locs X hx hd t kk => XS.ifNo X.here hx rfl hd rfl (by rw [if0]; exact oC_no hc) (by subst hp; exact kk)) k
theorem o_if {cd : ClassFile.Cond} {o : Int} {x : Int32} {pc'' : Nat} (hd : decode bytes pc = .ok (.ifCond cd o, 3)) (ho : 0 ≤ (pc : Int) + o) (hp : ((pc : Int) + o).toNat = pc') (hp' : pc + 3 = pc'')
    (ky : oC cd x 0 → OG p l e R s m args below meth c Z own nm bytes ml ret Q kc ks h cells slots (mkF m pc' ls rest)) (kn : oCn cd x 0 → OG p l e R s m args below meth c Z own nm bytes ml ret Q kc ks h cells slots (mkF m pc'' ls rest)) : OG p l e R s m args below meth c Z own nm bytes ml ret Q kc ks h cells slots (mkF m pc ls (.int x :: rest)) :=
  (oC_or cd x 0).elim (fun q => o_ifY hd ho hp q (ky q)) (fun q => o_ifN hd hp' q (kn q))
theorem o_icY {cd : ClassFile.Cond} {o : Int} {x y : Int32} (hd : decode bytes pc = .ok (.if_icmp cd o, 3)) (ho : 0 ≤ (pc : Int) + o) (hp : ((pc : Int) + o).toNat = pc') (hc : oC cd x y)
    (k : OG p l e R s m args below meth c Z own nm bytes ml ret Q kc ks h cells slots (mkF m pc' ls rest)) : OG p l e R s m args below meth c Z own nm bytes ml ret Q kc ks h cells slots (mkF m pc ls (.int y :: .int x :: rest)) :=
  o_pure hd (fun T locs X hx hd t kk => XS.icmpYes X.here hx rfl (pc0 := pc) rfl hd rfl (oC_yes hc) ho hp kk) k
theorem o_icN {cd : ClassFile.Cond} {o : Int} {x y : Int32} (hd : decode bytes pc = .ok (.if_icmp cd o, 3)) (hp : pc + 3 = pc') (hc : oCn cd x y)
    (k : OG p l e R s m args below meth c Z own nm bytes ml ret Q kc ks h cells slots (mkF m pc' ls rest)) : OG p l e R s m args below meth c Z own nm bytes ml ret Q kc ks h cells slots (mkF m pc ls (.int y :: .int x :: rest)) :=
  o_pure hd (fun T locs X hx hd t kk => XS.icmpNo X.here hx rfl hd rfl (oC_no hc) (by subst hp; exact kk)) k
theorem o_ic {cd : ClassFile.Cond} {o : Int} {x y : Int32} {pc'' : Nat} (hd : decode bytes pc = .ok (.if_icmp cd o, 3)) (ho : 0 ≤ (pc : Int) + o) (hp : ((pc : Int) + o).toNat = pc') (hp' : pc + 3 = pc'')
    (ky : oC cd x y → OG p l e R s m args below meth c Z own nm bytes ml ret Q kc ks h cells slots (mkF m pc' ls rest)) (kn : oCn cd x y → OG p l e R s m args below meth c Z own nm bytes ml ret Q kc ks h cells slots (mkF m pc'' ls rest)) : OG p l e R s m args below meth c Z own nm bytes ml ret Q kc ks h cells slots (mkF m pc ls (.int y :: .int x :: rest)) :=
  (oC_or cd x y).elim (fun q => o_icY hd ho hp q (ky q)) (fun q => o_icN hd hp' q (kn q))
def oA : ClassFile.ACond → Value → Value → Prop
  | .eq, x, y => x = y
  | .ne, x, y => ¬ x = y
def oAn : ClassFile.ACond → Value → Value → Prop
  | .eq, x, y => ¬ x = y
  | .ne, x, y => x = y
theorem o_acY {cd : ClassFile.ACond} {o : Int} {x y : Value} (hd : decode bytes pc = .ok (.if_acmp cd o, 3)) (hx' : x.isRef = true) (hy' : y.isRef = true) (ho : 0 ≤ (pc : Int) + o) (hp : ((pc : Int) + o).toNat = pc') (hc : oA cd x y)
    (k : OG p l e R s m args below meth c Z own nm bytes ml ret Q kc ks h cells slots (mkF m pc' ls rest)) : OG p l e R s m args below meth c Z own nm bytes ml ret Q kc ks h cells slots (mkF m pc ls (y :: x :: rest)) :=
  o_pure hd (fun T locs X hx hd t kk => XT.acmpYes X.here hx rfl (pc0 := pc) rfl hd rfl hx' hy' (by cases cd <;> exact decide_eq_true hc) ho hp kk) k
theorem o_acN {cd : ClassFile.ACond} {o : Int} {x y : Value} (hd : decode bytes pc = .ok (.if_acmp cd o, 3)) (hx' : x.isRef = true) (hy' : y.isRef = true) (hp : pc + 3 = pc') (hc : oAn cd x y)
    (k : OG p l e R s m args below meth c Z own nm bytes ml ret Q kc ks h cells slots (mkF m pc' ls rest)) : OG p l e R s m args below meth c Z own nm bytes ml ret Q kc ks h cells slots (mkF m pc ls (y :: x :: rest)) :=
  o_pure hd (fun T locs X hx hd t kk => XT.acmpNo X.here hx rfl hd rfl hx' hy' (by cases cd <;> first | exact decide_eq_false hc | exact decide_eq_false (fun q => q hc)) (by subst hp; exact kk)) k
theorem o_goto {o : Int} (hd : decode bytes pc = .ok (.goto o, 3)) (ho : 0 ≤ (pc : Int) + o) (hp : ((pc : Int) + o).toNat = pc')
    (k : OG p l e R s m args below meth c Z own nm bytes ml ret Q kc ks h cells slots (mkF m pc' ls st)) : OG p l e R s m args below meth c Z own nm bytes ml ret Q kc ks h cells slots (mkF m pc ls st) :=
  o_pure hd (fun T locs X hx hd t kk => XS.goto X.here hx rfl (pc0 := pc) rfl hd ho hp kk) k
theorem o_irem {x y : Int32} (hd : decode bytes pc = .ok (.irem, 1)) (hy : y ≠ 0) (hp : pc + 1 = pc')
    (k : OG p l e R s m args below meth c Z own nm bytes ml ret Q kc ks h cells slots (mkF m pc' ls (.int (x % y) :: rest))) : OG p l e R s m args below meth c Z own nm bytes ml ret Q kc ks h cells slots (mkF m pc ls (.int y :: .int x :: rest)) :=
  o_pure hd (fun T locs X hx hd t kk => iremM X hx rfl hd rfl hy (by subst hp; exact kk)) k
theorem o_idiv {x y : Int32} (hd : decode bytes pc = .ok (.idiv, 1)) (hy : y ≠ 0) (hp : pc + 1 = pc')
    (k : OG p l e R s m args below meth c Z own nm bytes ml ret Q kc ks h cells slots (mkF m pc' ls (.int (x / y) :: rest))) : OG p l e R s m args below meth c Z own nm bytes ml ret Q kc ks h cells slots (mkF m pc ls (.int y :: .int x :: rest)) :=
  o_pure hd (fun T locs X hx hd t kk => XS.idiv X.here hx rfl hd rfl hy (by subst hp; exact kk)) k
/-! constants, statics -/
theorem o_ldc {index : Nat} {v : Int32} (w : (Cond.constant own index v).before a0 Z = true) (hd : decode bytes pc = .ok (.ldc index, 2)) (hp : pc + 2 = pc')
    (k : OG p l e R s m args below meth c Z own nm bytes ml ret Q kc ks h cells slots (mkF m pc' ls (.int v :: st))) : OG p l e R s m args below meth c Z own nm bytes ml ret Q kc ks h cells slots (mkF m pc ls st) := by
  intro C T locs X eT N
  refine OGoal.via (fun t kk => X.ldcInt C.1 C.2.2.1 (mvT C.2.1 w) (g := mkF m pc ls st) rfl (hb C.2.2.2.1 hd) t ?_) (k C T locs X eT N)
  subst hp
  exact kk
theorem o_ldc2 {index : Nat} {v : Int64} (w : (Cond.constantLong own index v).before a0 Z = true) (hd : decode bytes pc = .ok (.ldc2_w index, 3)) (hp : pc + 3 = pc')
    (k : OG p l e R s m args below meth c Z own nm bytes ml ret Q kc ks h cells slots (mkF m pc' ls (.long v :: st))) : OG p l e R s m args below meth c Z own nm bytes ml ret Q kc ks h cells slots (mkF m pc ls st) := by
  intro C T locs X eT N
  refine OGoal.via (fun t kk => X.ldc2Long C.1 C.2.2.1 (mvT C.2.1 w) (g := mkF m pc ls st) rfl (hb C.2.2.2.1 hd) t ?_) (k C T locs X eT N)
  subst hp
  exact kk
theorem o_getS {O n d : String} {index : Nat} {v : Value} (w : (Cond.fieldLink own index O n d).before a0 Z = true) (F : Sta Z Z.heap O n d v) (hd : decode bytes pc = .ok (.getstatic index, 3)) (hp : pc + 3 = pc')
    (k : OG p l e R s m args below meth c Z own nm bytes ml ret Q kc ks h cells slots (mkF m pc' ls (v :: st))) : OG p l e R s m args below meth c Z own nm bytes ml ret Q kc ks h cells slots (mkF m pc ls st) := by
  intro C T locs X eT N
  obtain ⟨T', X', e', stp⟩ := getS (host := "") X C.1 C.2.1 C.2.2.1 w Via.refl eT (F.ext (eT ▸ own_ext X C.2.2.2.2.2.2.2.2 N)) (g := mkF m pc ls st) rfl (hb C.2.2.2.1 hd)
  subst hp
  exact OGoal.via stp (k C T' locs X' e' N)
/-! returns -/
theorem own_end {v : Option Value} {S : State} (X : Stand p l e R s m args below meth c T locs cells slots) (hlk : meth.locks = false) (hv : meth.sig.returnType = none → v = none) (hc : cells ≤ kc) (hs : slots ≤ ks) (N : Fr Z.heap.size locs) (eT : T.heap = h) (hq : Q v h)
    (stp : ∀ fs, (∀ (f : JFrame) (acts : List Action), f.method = m → f.locked = none → f.entered = [] → (doReturn e (T.setTop f) acts v).1 = T.setFrames fs) → Steps p.tables e below S (T.setFrames fs)) : OGoal p e below s kc ks Z.heap.size Q S := by
  obtain ⟨fs, hr, hrun, hended, hW, hsame⟩ := X.leave (v := v) hv hlk
  exact ⟨_, _, stp fs hr, hrun, hended, v, locs, rfl, ⟨⟨by rw [show (T.setFrames fs).heap = h from eT]; exact hq, X.same.2.1⟩, N⟩, ⟨v, rfl⟩, hW, hsame.mono hc hs⟩
theorem o_retI {z : Int32} (hd : decode bytes pc = .ok (.ireturn, 1)) (hc : cells ≤ kc) (hs : slots ≤ ks) (hr : ret = some .int) (hq : Q (some (.int z)) h) : OG p l e R s m args below meth c Z own nm bytes ml ret Q kc ks h cells slots (mkF m pc ls (.int z :: rest)) := by
  intro C T locs X eT N
  have hR : meth.sig.returnType = some .int := C.2.2.2.2.2.1.trans hr
  exact own_end X C.2.2.2.2.2.2.1 (fun q => by rw [hR] at q; cases q) hc hs N eT hq (fun fs hl => retOut X C.1 hR rfl (Or.inl ⟨rfl, Or.inl rfl, z, rfl⟩) (hb C.2.2.2.1 hd) hl)
theorem o_retZ {z w : Int32} (hd : decode bytes pc = .ok (.ireturn, 1)) (hc : cells ≤ kc) (hs : slots ≤ ks) (hr : ret = some .boolean) (hz : z = 0 ∨ z = 1) (hq : Q (some (.int z)) h) : OG p l e R s m args below meth c Z own nm bytes ml ret Q kc ks h cells slots (mkF m pc ls (.int z :: rest)) := by
  intro C T locs X eT N
  have hR : meth.sig.returnType = some .boolean := C.2.2.2.2.2.1.trans hr
  have hn : nar .boolean z = z := by rcases hz with rfl | rfl <;> rfl
  exact own_end X C.2.2.2.2.2.2.1 (fun q => by rw [hR] at q; cases q) hc hs N eT hq (fun fs hl => retN X C.1 hR (Or.inl rfl) (hb C.2.2.2.1 hd) (by rw [hn]; exact hl))
theorem o_retL {z : Int64} (hd : decode bytes pc = .ok (.lreturn, 1)) (hc : cells ≤ kc) (hs : slots ≤ ks) (hr : ret = some .long) (hq : Q (some (.long z)) h) : OG p l e R s m args below meth c Z own nm bytes ml ret Q kc ks h cells slots (mkF m pc ls (.long z :: rest)) := by
  intro C T locs X eT N
  have hR : meth.sig.returnType = some .long := C.2.2.2.2.2.1.trans hr
  exact own_end X C.2.2.2.2.2.2.1 (fun q => by rw [hR] at q; cases q) hc hs N eT hq (fun fs hl => retOut X C.1 hR rfl (Or.inr (Or.inl ⟨rfl, rfl, z, rfl⟩)) (hb C.2.2.2.1 hd) hl)
theorem o_retA {w : Value} {t : FieldType} (hd : decode bytes pc = .ok (.areturn, 1)) (hc : cells ≤ kc) (hs : slots ≤ ks) (hr : ret = some t) (ht : t.isReference = true) (hw : w.isRef = true) (hq : Q (some w) h) : OG p l e R s m args below meth c Z own nm bytes ml ret Q kc ks h cells slots (mkF m pc ls (w :: rest)) := by
  intro C T locs X eT N
  have hR : meth.sig.returnType = some t := C.2.2.2.2.2.1.trans hr
  have hn : narrow t w = w := by cases t <;> first | rfl | (cases ht; done)
  exact own_end X C.2.2.2.2.2.2.1 (fun q => by rw [hR] at q; cases q) hc hs N eT hq (fun fs hl => retOut X C.1 hR hn (Or.inr (Or.inr (Or.inr (Or.inr ⟨rfl, ht, hw⟩)))) (hb C.2.2.2.1 hd) hl)
theorem o_retV (hd : decode bytes pc = .ok (.return_, 1)) (hc : cells ≤ kc) (hs : slots ≤ ks) (hr : ret = none) (hq : Q none h) : OG p l e R s m args below meth c Z own nm bytes ml ret Q kc ks h cells slots (mkF m pc ls []) := by
  intro C T locs X eT N
  exact own_end X C.2.2.2.2.2.2.1 (fun _ => rfl) hc hs N eT hq (fun fs hl => X.returnOut C.1 (C.2.2.2.2.2.1.trans hr) (hb C.2.2.2.1 hd) hl)
/-! calls -/
theorem o_callS {index yl W : Nat} {y : MethodName} {yb : ByteArray} {yr : Option FieldType} {rm : Room} {yQ : Option Value → Heap → Prop} {argsL : List Value} {ps : List FieldType} {yr' : Option FieldType}
    (w1 : (Cond.methodLink own index y).before a0 Z = true) (w2 : (Cond.static y).before a0 Z = true) (w3 : (Cond.initialized y.cls).before a0 Z = true) (w4 : (Cond.code y yb yl yr).before a0 Z = true)
    (hy : y.cls ≠ "java/lang/invoke/MethodHandle" ∧ y.cls ≠ "java/lang/invoke/VarHandle") (K : Ext Z.heap h → OCtr l Z y yb yl yr rm argsL.toArray h yQ) (hd : decode bytes pc = .ok (.invokestatic index, 3))
    (hpd : parseMethodDescriptor y.desc = some ⟨ps, yr'⟩) (hpl : argsL.length = ps.length) (hsz : ls.size = ml) (hst : st = argsL.reverse ++ rest) (hW : (rest.map fun v => v.category).sum ≤ W)
    (hf : rm.frames + 1 ≤ R.frames) (hl : W + (yl + 11) + rm.locals ≤ R.locals) (hcc : cells + rm.cells ≤ R.cells) (hss : slots + rm.slots ≤ R.slots) (hp : pc + 3 = pc')
    (k : ∀ v h', yQ v h' → h.size ≤ h'.size → OG p l e R s m args below meth c Z own nm bytes ml ret Q kc ks h' (cells + rm.cells) (slots + rm.slots) (mkF m pc' ls (v.toList ++ rest))) : OG p l e R s m args below meth c Z own nm bytes ml ret Q kc ks h cells slots (mkF m pc ls st) := by
  intro C T locs X eT N
  have hE : Ext Z.heap h := eT ▸ own_ext X C.2.2.2.2.2.2.2.2 N
  obtain ⟨v, vm₁, ⟨T', L', k', n'⟩, -, X', ⟨L, ⟨hQ, hN⟩, e1, e2, e3⟩, stp⟩ := Jvm.LawKit.callS X C.1 (y := y) C.2.2.1 (mvT C.2.1 w1) (mvT C.2.1 w2) (mvT C.2.1 w3) (mvT C.2.1 w4) hy
    (backOf (W := W) (Q := fun v h2 L => (yQ v h2 ∧ h.size ≤ h2.size) ∧ Fr Z.heap.size L) (K hE []) C.2.1 w4 w3 hf hl) (g := mkF m pc ls st) rfl (hsz.trans C.2.2.2.2.1.symm) (argsL := argsL) (rest := rest) (lenOf hpd hpl) hst (by show 2 * 0 + _ ≤ _; rw [Nat.mul_zero, Nat.zero_add]; exact hW) (hb C.2.2.2.1 hd) (fun _ _ => ⟨rfl, eT, hcc, hss⟩)
  dsimp only [Pt.U, Pt.locs, Pt.cells, Pt.slots] at X' e1 e2 e3 hQ stp
  subst e1 e2 e3 hp
  exact OGoal.via stp (k v T'.heap hQ.1 hQ.2 C T' _ X' rfl (Fr.app N hN))
theorem o_callV {index yl W : Nat} {C0 C1 : String} {y z : MethodName} {yb : ByteArray} {yr : Option FieldType} {rm : Room} {yQ : Option Value → Heap → Prop} {a : Addr} {argsL : List Value} {ps : List FieldType} {yr' : Option FieldType}
    (w1 : (Cond.methodLink own index y).before a0 Z = true) (w2 : (Cond.declares y).before a0 Z = true) (w3 : (Cond.selects C0 y z).before a0 Z = true) (wf : (Cond.selects C1 y y).before a0 Z = true) (w4 : (Cond.instanceMethod z).before a0 Z = true) (w5 : (Cond.code z yb yl yr).before a0 Z = true) (w6 : (Cond.initialized z.cls).before a0 Z = true)
    (hy : y.cls ≠ "java/lang/invoke/MethodHandle" ∧ y.cls ≠ "java/lang/invoke/VarHandle") (E : Exa Z h a C0) (K : Ext Z.heap h → OCtr l Z z yb yl yr rm (.ref a :: argsL).toArray h yQ) (hd : decode bytes pc = .ok (.invokevirtual index, 3))
    (hpd : parseMethodDescriptor y.desc = some ⟨ps, yr'⟩) (hpl : argsL.length = ps.length) (hsz : ls.size = ml) (hst : st = argsL.reverse ++ .ref a :: rest) (hW : (rest.map fun v => v.category).sum ≤ W)
    (hf : rm.frames + 1 ≤ R.frames) (hl : W + (yl + 11) + rm.locals ≤ R.locals) (hcc : cells + rm.cells ≤ R.cells) (hss : slots + rm.slots ≤ R.slots) (hp : pc + 3 = pc')
    (k : ∀ v h', yQ v h' → h.size ≤ h'.size → OG p l e R s m args below meth c Z own nm bytes ml ret Q kc ks h' (cells + rm.cells) (slots + rm.slots) (mkF m pc' ls (v.toList ++ rest))) : OG p l e R s m args below meth c Z own nm bytes ml ret Q kc ks h cells slots (mkF m pc ls st) := by
  intro C T locs X eT N
  have hE : Ext Z.heap h := eT ▸ own_ext X C.2.2.2.2.2.2.2.2 N
  obtain ⟨cq, kq, qa, qb, qc⟩ := isOf C.2.1 eT E
  obtain ⟨v, vm₁, ⟨T', L', k', n'⟩, -, X', ⟨L, ⟨hQ, hN⟩, e1, e2, e3⟩, stp⟩ := X.virtualBack C.1 (y := y) (z := z) C.2.2.1 (mvT C.2.1 w1) (mvT C.2.1 w2) (notFace_of_selects (args := #[]) (mvT C.2.1 wf)) (mvT C.2.1 w3) (mvT C.2.1 w4) hy
    (backOf (W := W) (Q := fun v h2 L => (yQ v h2 ∧ h.size ≤ h2.size) ∧ Fr Z.heap.size L) (K hE []) C.2.1 w5 w6 hf hl) qa qc (g := mkF m pc ls st) rfl (hsz.trans C.2.2.2.2.1.symm) (Steps.refl _) (argsL := argsL) (rest := rest) (lenOf hpd hpl) hst (by show 2 * 0 + _ ≤ _; rw [Nat.mul_zero, Nat.zero_add]; exact hW) (hb C.2.2.2.1 hd) (fun _ _ => ⟨rfl, eT, hcc, hss⟩)
  dsimp only [Pt.U, Pt.locs, Pt.cells, Pt.slots] at X' e1 e2 e3 hQ stp
  subst e1 e2 e3 hp
  exact OGoal.via (fun t kk => stp.trans kk) (k v T'.heap hQ.1 hQ.2 C T' _ X' rfl (Fr.app N hN))
theorem o_callI {index yl W : Nat} {y : MethodName} {yb : ByteArray} {rm : Room} {yQ : Option Value → Heap → Prop} {a : Addr} {argsL : List Value} {ps : List FieldType} {yr' : Option FieldType}
    (hyn : y.name = "<init>") (w1 : (Cond.methodLink own index y).before a0 Z = true) (w4 : (Cond.instanceMethod y).before a0 Z = true) (w5 : (Cond.code y yb yl none).before a0 Z = true) (w6 : (Cond.initialized y.cls).before a0 Z = true)
    (hy : y.cls ≠ "java/lang/invoke/MethodHandle" ∧ y.cls ≠ "java/lang/invoke/VarHandle") (K : Ext Z.heap h → OCtr l Z y yb yl none rm (.ref a :: argsL).toArray h yQ) (hd : decode bytes pc = .ok (.invokespecial index, 3))
    (hpd : parseMethodDescriptor y.desc = some ⟨ps, yr'⟩) (hpl : argsL.length = ps.length) (hsz : ls.size = ml) (hst : st = argsL.reverse ++ .ref a :: rest) (hW : (rest.map fun v => v.category).sum ≤ W)
    (hf : rm.frames + 1 ≤ R.frames) (hl : W + (yl + 11) + rm.locals ≤ R.locals) (hcc : cells + rm.cells ≤ R.cells) (hss : slots + rm.slots ≤ R.slots) (hp : pc + 3 = pc')
    (k : ∀ v h', yQ v h' → h.size ≤ h'.size → OG p l e R s m args below meth c Z own nm bytes ml ret Q kc ks h' (cells + rm.cells) (slots + rm.slots) (mkF m pc' ls (v.toList ++ rest))) : OG p l e R s m args below meth c Z own nm bytes ml ret Q kc ks h cells slots (mkF m pc ls st) := by
  intro C T locs X eT N
  have hE : Ext Z.heap h := eT ▸ own_ext X C.2.2.2.2.2.2.2.2 N
  obtain ⟨v, vm₁, ⟨T', L', k', n'⟩, -, X', ⟨L, ⟨hQ, hN⟩, e1, e2, e3⟩, stp⟩ := X.specialBack C.1 (y := y) hyn C.2.2.1 (mvT C.2.1 w1) (mvT C.2.1 w4) (mvT C.2.1 w5) hy
    (backOf (W := W) (Q := fun v h2 L => (yQ v h2 ∧ h.size ≤ h2.size) ∧ Fr Z.heap.size L) (K hE []) C.2.1 w5 w6 hf hl) (g := mkF m pc ls st) rfl (hsz.trans C.2.2.2.2.1.symm) (Steps.refl _) (a := a) (argsL := argsL) (rest := rest) (lenOf hpd hpl) hst (by show 2 * 0 + _ ≤ _; rw [Nat.mul_zero, Nat.zero_add]; exact hW) (hb C.2.2.2.1 hd) (fun _ _ => ⟨rfl, eT, hcc, hss⟩)
  dsimp only [Pt.U, Pt.locs, Pt.cells, Pt.slots] at X' e1 e2 e3 hQ stp
  subst e1 e2 e3 hp
  exact OGoal.via (fun t kk => stp.trans kk) (k v T'.heap hQ.1 hQ.2 C T' _ X' rfl (Fr.app N hN))
theorem o_initO {index W : Nat} {a : Addr} (w1 : (Cond.methodLink own index Lib.objectInit).before a0 Z = true) (w2 : (Cond.instanceMethod Lib.objectInit).before a0 Z = true) (w3 : (Cond.code Lib.objectInit ⟨#[0xb1]⟩ 1 none).before a0 Z = true)
    (hd : decode bytes pc = .ok (.invokespecial index, 3)) (hsz : ls.size = ml) (hW : (rest.map fun v => v.category).sum ≤ W) (hf : 1 ≤ R.frames) (hl : W + 12 ≤ R.locals) (hp : pc + 3 = pc')
    (k : OG p l e R s m args below meth c Z own nm bytes ml ret Q kc ks h cells slots (mkF m pc' ls rest)) : OG p l e R s m args below meth c Z own nm bytes ml ret Q kc ks h cells slots (mkF m pc ls (.ref a :: rest)) := by
  intro C T locs X eT N
  obtain ⟨T', X', e', stp⟩ := initO X C.1 C.2.1 C.2.2.1 w1 w2 w3 eT (g := mkF m pc ls (.ref a :: rest)) rfl (hsz.trans C.2.2.2.2.1.symm) rfl (hb C.2.2.2.1 hd) hf (W := W) (by show 2 * 0 + _ ≤ _; rw [Nat.mul_zero, Nat.zero_add]; exact hW) hl
  subst hp
  exact OGoal.via stp (k C T' locs X' e' N)
/-! objects -/
theorem o_getF {O n d host : String} {index : Nat} {a : Addr} {v : Value} (w : (Cond.fieldLink own index O n d).before a0 Z = true ∨ (Cond.fieldLinkNest own index O n d host).before a0 Z = true) (F : Fld Z h a O n d v) (hd : decode bytes pc = .ok (.getfield index, 3)) (hp : pc + 3 = pc')
    (k : OG p l e R s m args below meth c Z own nm bytes ml ret Q kc ks h cells slots (mkF m pc' ls (v :: rest))) : OG p l e R s m args below meth c Z own nm bytes ml ret Q kc ks h cells slots (mkF m pc ls (.ref a :: rest)) := by
  intro C T locs X eT N
  obtain ⟨T', X', e', stp⟩ := getF X C.1 C.2.1 C.2.2.1 w Via.refl eT F (g := mkF m pc ls (.ref a :: rest)) rfl rfl (hb C.2.2.2.1 hd)
  subst hp
  exact OGoal.via stp (k C T' locs X' e' N)
theorem o_putF {O n d host C0 : String} {index kk : Nat} {ty : FieldType} {a : Addr} {v old : Value} (w : (Cond.fieldLink own index O n d).before a0 Z = true ∨ (Cond.fieldLinkNest own index O n d host).before a0 Z = true) (F : Fld Z h a O n d old) (E : Exa Z h a C0)
    (L : (Cond.lays C0 O n d).before a0 Z = true ∨ ((Cond.laysFinal C0 O n d).before a0 Z = true ∧ own = O ∧ nm = "<init>")) (wi : (Cond.instantiable C0 kk).before a0 Z = true) (hty : parseFieldDescriptor d = some ty) (hn : narrow ty v = v) (hf : fits ty v = true) (ha : Z.heap.size ≤ a)
    (hd : decode bytes pc = .ok (.putfield index, 3)) (hp : pc + 3 = pc')
    (k : ∀ h', Wr h h' a (Jvm.RoadKit.slotOf Z O n d) v → OG p l e R s m args below meth c Z own nm bytes ml ret Q kc ks h' cells slots (mkF m pc' ls rest)) : OG p l e R s m args below meth c Z own nm bytes ml ret Q kc ks h cells slots (mkF m pc ls (v :: .ref a :: rest)) := by
  intro C T locs X eT N
  obtain ⟨T', h', X', e', W', stp⟩ := putF X C.1 C.2.1 C.2.2.1 w Via.refl eT F E (L.imp id fun q => ⟨q.1, q.2.1, C.2.2.2.2.2.2.2.1.trans q.2.2⟩) wi hty hn hf (g := mkF m pc ls (v :: .ref a :: rest)) rfl rfl (hb C.2.2.2.1 hd)
  subst hp
  exact OGoal.via stp (k h' W' C T' _ X' e' (Fr.snoc X' N ha))
theorem o_newO {C0 : String} {index n : Nat} (w : (Cond.classLink own index C0).before a0 Z = true) (wi : (Cond.instantiable C0 n).before a0 Z = true) (wz : (Cond.initialized C0).before a0 Z = true) (hd : decode bytes pc = .ok (.new index, 3)) (hc : cells + 1 ≤ R.cells) (hl : slots + n ≤ R.slots) (hp : pc + 3 = pc')
    (k : ∀ h' a, a = h.size → Z.heap.size ≤ a → Ext h h' → Exa Z h' a C0 → (∀ {O nm d : String} {ty : FieldType}, Laid Z a0 C0 O nm d → parseFieldDescriptor d = some ty → Fld Z h' a O nm d (defaultValue ty)) → OG p l e R s m args below meth c Z own nm bytes ml ret Q kc ks h' (cells + 1) (slots + n) (mkF m pc' ls (.ref a :: st))) : OG p l e R s m args below meth c Z own nm bytes ml ret Q kc ks h cells slots (mkF m pc ls st) := by
  intro C T locs X eT N
  have hE : Ext Z.heap h := eT ▸ own_ext X C.2.2.2.2.2.2.2.2 N
  obtain ⟨T', h', X', e', E', A', D', -, stp⟩ := newO X C.1 C.2.1 C.2.2.1 w wi wz eT (g := mkF m pc ls st) rfl (hb C.2.2.2.1 hd) hc hl
  subst hp
  exact OGoal.via stp (k h' h.size rfl hE.1 E' A' D' C T' _ X' e' N)
theorem own_word {L : List Jvm.Cond} {dc : Jvm.Cond} (hw : ∀ d ∈ L, d.before a0 Z = true) (i : Nat) (q : L[i]? = some dc) : dc.before a0 Z = true := hw _ (List.mem_of_getElem? q)
end OwnKit
section ArrKit
variable {p : Program} {l : Launch} {e : Env} {R : Room} {s : State} {m : MethodId} {args : Array Value} {below : List Frame} {meth : Method} {c : Code} {T : State} {locs : List Loc} {cells slots kc ks : Nat} {Z : State} {a0 : Array Value} {own nm : String} {bytes : ByteArray} {ml : Nat} {ret : Option FieldType} {Q : Option Value → Heap → Prop} {h h' : Heap} {pc pc' : Nat} {ls ls' : Array Slot} {st st' rest : List Value} {a b : Addr} {ty : FieldType} {vs : List Value} {k0 : ClassId}
/-- an array, by what it holds -/
def OArr (Z : State) (h : Heap) (a : Addr) (k0 : ClassId) (ty : FieldType) (vs : List Value) : Prop := ∃ cl : Cell, Arr Z h a cl ty ∧ cl.cls = k0 ∧ cl.slots.toList = vs ∧ vs.length < 2 ^ 31
theorem OArr.lt (F : OArr Z h a k0 ty vs) : a < h.size := by obtain ⟨c, A, -⟩ := F; exact A.lt
theorem OArr.ext (F : OArr Z h a k0 ty vs) (E : Ext h h') : OArr Z h' a k0 ty vs := by obtain ⟨c, A, r⟩ := F; exact ⟨c, A.ext E, r⟩
theorem OArr.other {sl : Nat} {v : Value} (F : OArr Z h b k0 ty vs) (W : Wr h h' a sl v) (q : b ≠ a) : OArr Z h' b k0 ty vs := by obtain ⟨c, A, r⟩ := F; exact ⟨c, A.other W q, r⟩
theorem OArr.keep {ws : List Addr} (F : OArr Z h a k0 ty vs) (K : Keep h h' ws) (q : a ∉ ws) : OArr Z h' a k0 ty vs := by obtain ⟨c, A, r⟩ := F; exact ⟨c, ⟨K.2.1 a c A.1 q, A.2⟩, r⟩
theorem OArr.set {i : Nat} {v : Value} (F : OArr Z h a k0 ty vs) (W : Wr h h' a i v) : OArr Z h' a k0 ty (vs.set i v) := by
  obtain ⟨c, A, q0, q1, q2⟩ := F
  refine ⟨_, A.same W, q0, ?_, by rw [List.length_set]; exact q2⟩
  subst q1
  show (c.slots.setIfInBounds i v).toList = _
  rw [Array.toList_setIfInBounds]
theorem own_clamp {i : Nat} (hi : i < 2 ^ 31) : ¬ (Int32.ofNat i < 0) ∧ (Int32.ofNat i).toNatClampNeg = i := by
  have h1 : (Int32.ofNat i).toInt = i := by
    have : (Int32.ofNat i).toInt = Int.bmod i (2 ^ 32) := Int32.toInt_ofNat'
    rw [this, Int.bmod_def]
    omega
  refine ⟨?_, ?_⟩
  · rw [Int32.lt_iff_toInt_lt, h1]
    show ¬ (i : Int) < 0
    omega
  · show (Int32.ofNat i).toInt.toNat = i
    rw [h1]
    rfl
theorem OArr.at {i : Nat} {v : Value} (F : OArr Z h a k0 ty vs) (hv : vs[i]? = some v) : ∃ cl : Cell, Arr Z h a cl ty ∧ ¬ (Int32.ofNat i < 0 ∨ cl.slots.size ≤ (Int32.ofNat i).toNatClampNeg) ∧ cl.slots[(Int32.ofNat i).toNatClampNeg]? = some v ∧ (Int32.ofNat i).toNatClampNeg = i := by
  obtain ⟨c, A, q0, q1, q2⟩ := F
  subst q1
  have hi : i < c.slots.toList.length := (List.getElem?_eq_some_iff.mp hv).1
  obtain ⟨e1, e2⟩ := own_clamp (i := i) (by omega)
  refine ⟨c, A, ?_, ?_, e2⟩
  · rw [e2]
    intro z
    rcases z with z | z
    · exact e1 z
    · rw [Array.length_toList] at hi; omega
  · rw [e2, ← Array.getElem?_toList]; exact hv
theorem own_inn {i n : Nat} {cl : Cell} (hs : cl.slots.toList.length = n) (hn : n < 2 ^ 31) (hi : i < n) : ¬ (Int32.ofNat i < 0 ∨ cl.slots.size ≤ (Int32.ofNat i).toNatClampNeg) ∧ (Int32.ofNat i).toNatClampNeg = i := by
  obtain ⟨e1, e2⟩ := own_clamp (i := i) (by omega)
  refine ⟨?_, e2⟩
  rw [e2]
  intro z
  rcases z with z | z
  · exact e1 z
  · rw [Array.length_toList] at hs; omega
theorem o_len (F : OArr Z h a k0 ty vs) (hd : decode bytes pc = .ok (.arraylength, 1)) (hp : pc + 1 = pc')
    (k : OG p l e R s m args below meth c Z own nm bytes ml ret Q kc ks h cells slots (mkF m pc' ls (.int (Int32.ofNat vs.length) :: rest))) : OG p l e R s m args below meth c Z own nm bytes ml ret Q kc ks h cells slots (mkF m pc ls (.ref a :: rest)) := by
  intro C T locs X eT N
  obtain ⟨cl, A, q0, q1, q2⟩ := F
  subst hp q1
  refine OGoal.via (fun t kk => X.arraylength C.1 (by rw [eT]; exact A.1) (State.isArrayOf_alike C.2.1.alike A.2.1) (g := mkF m pc ls (.ref a :: rest)) rfl rfl (hb C.2.2.2.1 hd) t ?_) (k C T locs X eT N)
  rw [Array.length_toList] at kk
  exact kk
theorem o_iald {i : Nat} {j : Int32} {v : Value} (F : OArr Z h a k0 .int vs) (hj : j = Int32.ofNat i) (hv : vs[i]? = some v) (hd : decode bytes pc = .ok (.iaload, 1)) (hp : pc + 1 = pc')
    (k : OG p l e R s m args below meth c Z own nm bytes ml ret Q kc ks h cells slots (mkF m pc' ls (v :: rest))) : OG p l e R s m args below meth c Z own nm bytes ml ret Q kc ks h cells slots (mkF m pc ls (.int j :: .ref a :: rest)) := by
  intro C T locs X eT N
  subst hj hp
  obtain ⟨cl, A, e1, e2, -⟩ := F.at hv
  exact OGoal.via (fun t kk => X.iaload C.1 (by rw [eT]; exact A.1) (State.isArrayOf_alike C.2.1.alike A.2.1) A.2.2 e1 e2 (g := mkF m pc ls (.int (Int32.ofNat i) :: .ref a :: rest)) rfl rfl (hb C.2.2.2.1 hd) t kk) (k C T locs X eT N)
theorem o_bald {i : Nat} {j : Int32} {v : Value} (F : OArr Z h a k0 .byte vs) (hj : j = Int32.ofNat i) (hv : vs[i]? = some v) (hd : decode bytes pc = .ok (.baload, 1)) (hp : pc + 1 = pc')
    (k : OG p l e R s m args below meth c Z own nm bytes ml ret Q kc ks h cells slots (mkF m pc' ls (v :: rest))) : OG p l e R s m args below meth c Z own nm bytes ml ret Q kc ks h cells slots (mkF m pc ls (.int j :: .ref a :: rest)) := by
  intro C T locs X eT N
  subst hj hp
  obtain ⟨cl, A, e1, e2, -⟩ := F.at hv
  exact OGoal.via (fun t kk => X.baloadBytes C.1 (by rw [eT]; exact A.1) (State.isArrayOf_alike C.2.1.alike A.2.1) A.2.2 e1 e2 (g := mkF m pc ls (.int (Int32.ofNat i) :: .ref a :: rest)) rfl rfl (hb C.2.2.2.1 hd) t kk) (k C T locs X eT N)
theorem o_zald {i : Nat} {j : Int32} {v : Value} (F : OArr Z h a k0 .boolean vs) (hj : j = Int32.ofNat i) (hv : vs[i]? = some v) (hd : decode bytes pc = .ok (.baload, 1)) (hp : pc + 1 = pc')
    (k : OG p l e R s m args below meth c Z own nm bytes ml ret Q kc ks h cells slots (mkF m pc' ls (v :: rest))) : OG p l e R s m args below meth c Z own nm bytes ml ret Q kc ks h cells slots (mkF m pc ls (.int j :: .ref a :: rest)) := by
  intro C T locs X eT N
  subst hj hp
  obtain ⟨cl, A, e1, e2, -⟩ := F.at hv
  exact OGoal.via (fun t kk => X.baloadBooleans C.1 (by rw [eT]; exact A.1) (State.isArrayOf_alike C.2.1.alike A.2.1) A.2.2 e1 e2 (g := mkF m pc ls (.int (Int32.ofNat i) :: .ref a :: rest)) rfl rfl (hb C.2.2.2.1 hd) t kk) (k C T locs X eT N)
theorem o_aald {i : Nat} {j : Int32} {v : Value} (F : OArr Z h a k0 ty vs) (hty : ty.isReference = true) (hj : j = Int32.ofNat i) (hv : vs[i]? = some v) (hd : decode bytes pc = .ok (.aaload, 1)) (hp : pc + 1 = pc')
    (k : OG p l e R s m args below meth c Z own nm bytes ml ret Q kc ks h cells slots (mkF m pc' ls (v :: rest))) : OG p l e R s m args below meth c Z own nm bytes ml ret Q kc ks h cells slots (mkF m pc ls (.int j :: .ref a :: rest)) := by
  intro C T locs X eT N
  subst hj hp
  obtain ⟨cl, A, e1, e2, -⟩ := F.at hv
  exact OGoal.via (fun t kk => X.aaload C.1 (by rw [eT]; exact A.1) (State.isArrayOf_alike C.2.1.alike A.2.1) hty A.2.2 e1 e2 (g := mkF m pc ls (.int (Int32.ofNat i) :: .ref a :: rest)) rfl rfl (hb C.2.2.2.1 hd) t kk) (k C T locs X eT N)
theorem o_aaldJ {j : Int32} {v : Value} {cl : Cell} (A : Arr Z h a cl ty) (hty : ty.isReference = true) (hj : ¬ (j < 0 ∨ cl.slots.size ≤ j.toNatClampNeg)) (hv : cl.slots[j.toNatClampNeg]? = some v) (hd : decode bytes pc = .ok (.aaload, 1)) (hp : pc + 1 = pc')
    (k : OG p l e R s m args below meth c Z own nm bytes ml ret Q kc ks h cells slots (mkF m pc' ls (v :: rest))) : OG p l e R s m args below meth c Z own nm bytes ml ret Q kc ks h cells slots (mkF m pc ls (.int j :: .ref a :: rest)) := by
  intro C T locs X eT N
  subst hp
  exact OGoal.via (fun t kk => X.aaload C.1 (by rw [eT]; exact A.1) (State.isArrayOf_alike C.2.1.alike A.2.1) hty A.2.2 hj hv (g := mkF m pc ls (.int j :: .ref a :: rest)) rfl rfl (hb C.2.2.2.1 hd) t kk) (k C T locs X eT N)
theorem o_iast {i : Nat} {j x : Int32} (F : OArr Z h a k0 .int vs) (hj : j = Int32.ofNat i) (hi : i < vs.length) (ha : Z.heap.size ≤ a) (hd : decode bytes pc = .ok (.iastore, 1)) (hp : pc + 1 = pc')
    (k : ∀ h', Wr h h' a i (.int x) → OG p l e R s m args below meth c Z own nm bytes ml ret Q kc ks h' cells slots (mkF m pc' ls rest)) : OG p l e R s m args below meth c Z own nm bytes ml ret Q kc ks h cells slots (mkF m pc ls (.int x :: .int j :: .ref a :: rest)) := by
  intro C T locs X eT N
  subst hj hp
  obtain ⟨cl, A, q0, q1, q2⟩ := F
  obtain ⟨e1, e2⟩ := own_inn (i := i) (cl := cl) (by rw [q1]) q2 hi
  obtain ⟨T', h', X', e', W', stp⟩ := stI X C.1 C.2.1 eT A e1 (g := mkF m pc ls (.int x :: .int (Int32.ofNat i) :: .ref a :: rest)) rfl rfl (hb C.2.2.2.1 hd)
  exact OGoal.via stp (k h' (by rw [e2] at W'; exact W') C T' _ X' e' (Fr.snoc X' N ha))
theorem o_bast {i : Nat} {j x : Int32} (F : OArr Z h a k0 .byte vs) (hj : j = Int32.ofNat i) (hi : i < vs.length) (ha : Z.heap.size ≤ a) (hd : decode bytes pc = .ok (.bastore, 1)) (hp : pc + 1 = pc')
    (k : ∀ h', Wr h h' a i (.int (nar .byte x)) → OG p l e R s m args below meth c Z own nm bytes ml ret Q kc ks h' cells slots (mkF m pc' ls rest)) : OG p l e R s m args below meth c Z own nm bytes ml ret Q kc ks h cells slots (mkF m pc ls (.int x :: .int j :: .ref a :: rest)) := by
  intro C T locs X eT N
  subst hj hp
  obtain ⟨cl, A, q0, q1, q2⟩ := F
  obtain ⟨e1, e2⟩ := own_inn (i := i) (cl := cl) (by rw [q1]) q2 hi
  obtain ⟨T', h', X', e', W', stp⟩ := stB X C.1 C.2.1 eT A e1 (g := mkF m pc ls (.int x :: .int (Int32.ofNat i) :: .ref a :: rest)) rfl rfl (hb C.2.2.2.1 hd)
  exact OGoal.via stp (k h' (by rw [e2] at W'; exact W') C T' _ X' e' (Fr.snoc X' N ha))
theorem o_zast {i : Nat} {j x : Int32} (F : OArr Z h a k0 .boolean vs) (hj : j = Int32.ofNat i) (hi : i < vs.length) (ha : Z.heap.size ≤ a) (hd : decode bytes pc = .ok (.bastore, 1)) (hp : pc + 1 = pc')
    (k : ∀ h', Wr h h' a i (.int (nar .boolean x)) → OG p l e R s m args below meth c Z own nm bytes ml ret Q kc ks h' cells slots (mkF m pc' ls rest)) : OG p l e R s m args below meth c Z own nm bytes ml ret Q kc ks h cells slots (mkF m pc ls (.int x :: .int j :: .ref a :: rest)) := by
  intro C T locs X eT N
  subst hj hp
  obtain ⟨cl, A, q0, q1, q2⟩ := F
  obtain ⟨e1, e2⟩ := own_inn (i := i) (cl := cl) (by rw [q1]) q2 hi
  obtain ⟨T', h', X', e', W', stp⟩ := stZ X C.1 C.2.1 eT A e1 (g := mkF m pc ls (.int x :: .int (Int32.ofNat i) :: .ref a :: rest)) rfl rfl (hb C.2.2.2.1 hd)
  exact OGoal.via stp (k h' (by rw [e2] at W'; exact W') C T' _ X' e' (Fr.snoc X' N ha))
theorem o_aast {i : Nat} {j : Int32} {v : Value} (F : OArr Z h a k0 ty vs) (hty : ty.isReference = true) (S : Sto Z h a v) (hj : j = Int32.ofNat i) (hi : i < vs.length) (ha : Z.heap.size ≤ a) (hd : decode bytes pc = .ok (.aastore, 1)) (hp : pc + 1 = pc')
    (k : ∀ h', Wr h h' a i v → OG p l e R s m args below meth c Z own nm bytes ml ret Q kc ks h' cells slots (mkF m pc' ls rest)) : OG p l e R s m args below meth c Z own nm bytes ml ret Q kc ks h cells slots (mkF m pc ls (v :: .int j :: .ref a :: rest)) := by
  intro C T locs X eT N
  subst hj hp
  obtain ⟨cl, A, q0, q1, q2⟩ := F
  obtain ⟨e1, e2⟩ := own_inn (i := i) (cl := cl) (by rw [q1]) q2 hi
  obtain ⟨T', h', X', e', W', stp⟩ := stR X C.1 C.2.1 eT A e1 hty S (g := mkF m pc ls (v :: .int (Int32.ofNat i) :: .ref a :: rest)) rfl rfl (hb C.2.2.2.1 hd)
  exact OGoal.via stp (k h' (by rw [e2] at W'; exact W') C T' _ X' e' (Fr.snoc X' N ha))
theorem own_newA {cA : ClassId} {n : Nat} (hn : n < 2 ^ 31) (A : Arr Z h a (newA cA ty (Int32.ofNat n)) ty) : OArr Z h a cA ty (List.replicate n (defaultValue ty)) := by
  refine ⟨_, A, rfl, ?_, by rw [List.length_replicate]; exact hn⟩
  show (Array.replicate (Int32.ofNat n).toNatClampNeg (defaultValue ty)).toList = _
  rw [(own_clamp hn).2, Array.toList_replicate]
theorem o_newP {aty : ArrayType} {n cap : Nat} {j : Int32} (w : (Cond.arrayClass (newarray.typeOf aty)).before a0 Z = true) (hj : j = Int32.ofNat n) (hn : n ≤ cap) (hcap : cap < 60000000) (hd : decode bytes pc = .ok (.newarray aty, 2)) (hc : cells + 1 ≤ R.cells) (hl : slots + cap ≤ R.slots) (hp : pc + 2 = pc')
    (k : ∀ h' a k0, a = h.size → Z.heap.size ≤ a → Ext h h' → OArr Z h' a k0 (newarray.typeOf aty) (List.replicate n (defaultValue (newarray.typeOf aty))) → OG p l e R s m args below meth c Z own nm bytes ml ret Q kc ks h' (cells + 1) (slots + cap) (mkF m pc' ls (.ref a :: rest))) : OG p l e R s m args below meth c Z own nm bytes ml ret Q kc ks h cells slots (mkF m pc ls (.int j :: rest)) := by
  intro C T locs X eT N
  subst hj hp
  have hE : Ext Z.heap h := eT ▸ own_ext X C.2.2.2.2.2.2.2.2 N
  obtain ⟨e1, e2⟩ := own_clamp (i := n) (by omega)
  obtain ⟨T', h', cA, X', e', E', A', stp⟩ := newP X C.1 C.2.1 w eT (g := mkF m pc ls (.int (Int32.ofNat n) :: rest)) rfl (hb C.2.2.2.1 hd) rfl e1 (cap := cap) (by rw [e2]; exact hn) (by omega) hc hl
  exact OGoal.via stp (k h' h.size cA rfl hE.1 E' (own_newA (by omega) A') C T' _ X' e' N)
theorem o_newR {C0 : String} {index n cap : Nat} {j : Int32} (w1 : (Cond.classLink own index C0).before a0 Z = true) (w2 : (Cond.arrayOver (.object C0)).before a0 Z = true) (hj : j = Int32.ofNat n) (hn : n ≤ cap) (hcap : cap < 60000000) (hd : decode bytes pc = .ok (.anewarray index, 3)) (hc : cells + 1 ≤ R.cells) (hl : slots + cap ≤ R.slots) (hp : pc + 3 = pc')
    (k : ∀ h' a k0, a = h.size → Z.heap.size ≤ a → Ext h h' → OArr Z h' a k0 (.object C0) (List.replicate n .null) → Ovr Z k0 C0 → OG p l e R s m args below meth c Z own nm bytes ml ret Q kc ks h' (cells + 1) (slots + cap) (mkF m pc' ls (.ref a :: rest))) : OG p l e R s m args below meth c Z own nm bytes ml ret Q kc ks h cells slots (mkF m pc ls (.int j :: rest)) := by
  intro C T locs X eT N
  subst hj hp
  have hE : Ext Z.heap h := eT ▸ own_ext X C.2.2.2.2.2.2.2.2 N
  obtain ⟨e1, e2⟩ := own_clamp (i := n) (by omega)
  obtain ⟨T', h', cA, X', e', E', A', O', stp⟩ := newR X C.1 C.2.1 C.2.2.1 w1 w2 eT (g := mkF m pc ls (.int (Int32.ofNat n) :: rest)) rfl (hb C.2.2.2.1 hd) rfl e1 (cap := cap) (by rw [e2]; exact hn) (by omega) hc hl
  exact OGoal.via stp (k h' h.size cA rfl hE.1 E' (own_newA (by omega) A') O' C T' _ X' e' N)
theorem own_sto {y : Addr} {C0 : String} (F : OArr Z h a k0 ty vs) (O : Ovr Z k0 C0) (I : Ins Z h y C0 true) : Sto Z h a (.ref y) := by
  obtain ⟨cl, A, q0, q1, q2⟩ := F
  exact Sto.ofV A q0 O I
end ArrKit
theorem own_ush (x : Int64) : (XT.ushrL x 33).toBitVec = x.toBitVec >>> 33 := by
  have e : ((33 : Int32).toInt64.toUInt64 &&& Int64.toUInt64 63) = (33 : UInt64) := by decide
  show ((x.toUInt64 >>> ((33 : Int32).toInt64.toUInt64 &&& Int64.toUInt64 63))).toBitVec = _
  rw [e, UInt64.toBitVec_shiftRight]
  rfl
def own_xs (x : Int64) : Int64 := x ^^^ XT.ushrL x 33
theorem own_xs2 (x : Int64) : own_xs (own_xs x) = x := by
  apply Int64.toBitVec_inj.mp
  show ((own_xs x) ^^^ XT.ushrL (own_xs x) 33).toBitVec = _
  rw [Int64.toBitVec_xor, own_ush]
  show ((x ^^^ XT.ushrL x 33).toBitVec) ^^^ ((x ^^^ XT.ushrL x 33).toBitVec >>> 33) = _
  rw [Int64.toBitVec_xor, own_ush]
  apply BitVec.eq_of_getLsbD_eq
  intro i hi
  simp only [BitVec.getLsbD_xor, BitVec.getLsbD_ushiftRight]
  have : x.toBitVec.getLsbD (33 + (33 + i)) = false := BitVec.getLsbD_of_ge _ _ (by omega)
  rw [this]
  cases x.toBitVec.getLsbD i <;> cases x.toBitVec.getLsbD (33 + i) <;> rfl
theorem own_xsi {x y : Int64} (h : own_xs x = own_xs y) : x = y := by rw [← own_xs2 x, h, own_xs2]
theorem own_mi {x y c d : Int64} (hc : c * d = 1) (h : x * c = y * c) : x = y := by
  have h1 : x * c * d = y * c * d := by rw [h]
  rwa [Int64.mul_assoc, Int64.mul_assoc, hc, Int64.mul_one, Int64.mul_one] at h1
def own_mix (x : Int64) : Int64 := own_xs (own_xs (own_xs x * (-49064778989728563)) * (-4265267296055464877))
theorem own_mixi {x y : Int64} (h : own_mix x = own_mix y) : x = y :=
  own_xsi (own_mi (d := 5725274745694666757) (by decide) (own_xsi (own_mi (d := -7154897129451604005) (by decide) (own_xsi h))))
def own_p (bs : List Int32) (s : Nat) : Nat → Int64
  | 0 => 0
  | n + 1 => 31 * own_p bs s n + ((bs.getD (s + n) 0) &&& 255).toInt64
theorem own_n32 {i : Nat} (hi : i < 2 ^ 31) : (Int32.ofNat i).toInt = i := by
  have : (Int32.ofNat i).toInt = Int.bmod i (2 ^ 32) := Int32.toInt_ofNat'
  rw [this, Int.bmod_def]
  omega
theorem own_ltn {i j : Nat} (hi : i < 2 ^ 31) (hj : j < 2 ^ 31) : Int32.ofNat i < Int32.ofNat j ↔ i < j := by
  rw [Int32.lt_iff_toInt_lt, own_n32 hi, own_n32 hj]
  omega
theorem own_addn (i j : Nat) : Int32.ofNat i + Int32.ofNat j = Int32.ofNat (i + j) := (Int32.ofNat_add i j).symm
theorem own_get {bs : List Int32} {i : Nat} (hi : i < bs.length) : (bs.map Value.int)[i]? = some (.int (bs.getD i 0)) := by
  rw [List.getElem?_map, List.getElem?_eq_getElem hi, List.getD_eq_getElem?_getD, List.getElem?_eq_getElem hi]
  rfl
theorem own_cmp0 (x y : Int64) : XT.cmpL x y = 0 ↔ x = y := by
  have e : XT.cmpL x y = if y < x then 1 else if x = y then 0 else -1 := rfl
  rw [e]
  by_cases h1 : y < x
  · rw [if_pos h1]
    refine ⟨fun q => absurd q (by decide), fun q => ?_⟩
    subst q
    rw [Int64.lt_iff_toInt_lt] at h1
    omega
  · rw [if_neg h1]
    by_cases h2 : x = y
    · rw [if_pos h2]; exact ⟨fun _ => h2, fun _ => rfl⟩
    · rw [if_neg h2]; exact ⟨fun q => absurd q (by decide), fun q => absurd q h2⟩
theorem own_mx (x y : Int64) : XT.cmpL (own_mix x) (own_mix y) = 0 ↔ XT.cmpL x y = 0 := by
  rw [own_cmp0, own_cmp0]
  exact ⟨fun q => own_mixi q, fun q => by rw [q]⟩
theorem own_mask (r : Int32) {k : Nat} {q : Int32} (hk : k ≤ 31) (hq : q.toBitVec.toNat = 2 ^ k - 1) : ∃ s, s < 2 ^ k ∧ r &&& q = Int32.ofNat s := by
  refine ⟨r.toBitVec.toNat % 2 ^ k, Nat.mod_lt _ (Nat.two_pow_pos k), Int32.toBitVec_inj.mp (BitVec.eq_of_toNat_eq ?_)⟩
  rw [Int32.toBitVec_and, BitVec.toNat_and, hq, Nat.and_two_pow_sub_one_eq_mod]
  show _ = (BitVec.ofNat 32 _).toNat
  rw [BitVec.toNat_ofNat]
  have h1 : r.toBitVec.toNat % 2 ^ k < 2 ^ k := Nat.mod_lt _ (Nat.two_pow_pos k)
  have h2 : 2 ^ k ≤ 2 ^ 31 := Nat.pow_le_pow_right (by decide) hk
  exact (Nat.mod_eq_of_lt (by omega)).symm
theorem own_min {s t : Nat} (hs : s < 16) (ht : t < 32) : ∃ e, s ≤ e ∧ e ≤ 16 ∧ (if Int32.ofNat (s + t) < 16 then Int32.ofNat (s + t) else 16) = Int32.ofNat e := by
  by_cases q : s + t < 16
  · exact ⟨s + t, by omega, by omega, if_pos ((own_ltn (by omega) (by omega)).mpr q)⟩
  · exact ⟨16, by omega, by omega, if_neg (fun r => q ((own_ltn (i := s + t) (j := 16) (by omega) (by omega)).mp r))⟩
theorem own_set {bs : List Int32} {i : Nat} {v : Int32} : (bs.map Value.int).set i (.int v) = (bs.set i v).map Value.int := (List.map_set).symm
theorem own_setx {Z : State} {h : Heap} {a : Addr} {k0 : ClassId} {cs : List Int32} {i : Nat} {v : Int32} (hl : cs.length = 16) (F : OArr Z h a k0 .byte ((cs.map Value.int).set i (.int v))) : ∃ cs' : List Int32, cs'.length = 16 ∧ OArr Z h a k0 .byte (cs'.map Value.int) :=
  ⟨cs.set i v, by rw [List.length_set]; exact hl, by rw [own_set] at F; exact F⟩
theorem own_pos (x : Int32) : 0 ≤ (x &&& 2147483647).toInt := by
  have h : (x &&& 2147483647).toBitVec.toNat = x.toBitVec.toNat % 2 ^ 31 := by
    rw [Int32.toBitVec_and, BitVec.toNat_and]
    exact Nat.and_two_pow_sub_one_eq_mod _ 31
  have h2 : (x &&& 2147483647).toInt = (x &&& 2147483647).toBitVec.toInt := rfl
  rw [h2, BitVec.toInt_eq_toNat_cond, h]
  split <;> omega
theorem own_mod (x : Int32) {n : Int32} {k : Nat} (hn : n.toInt = k) (hk : 0 < k) (hk2 : k ≤ 100) : ∃ t : Nat, t < k ∧ (x &&& 2147483647) % n = Int32.ofNat t := by
  have h1 := own_pos x
  have h2 : ((x &&& 2147483647) % n).toInt = (x &&& 2147483647).toInt.tmod n.toInt := Int32.toInt_mod _ _
  rw [Int.tmod_eq_emod_of_nonneg h1, hn] at h2
  have h3 := Int.emod_lt_of_pos (x &&& 2147483647).toInt (by omega : (0 : Int) < k)
  have h4 := Int.emod_nonneg (x &&& 2147483647).toInt (by omega : (k : Int) ≠ 0)
  refine ⟨((x &&& 2147483647) % n).toInt.toNat, by omega, Int32.toInt_inj.mp ?_⟩
  rw [own_n32 (by omega)]
  omega

theorem b2_0_2 : oBlk jdk_29_method_69_code 0 [.iload_n 0, .iload_n 1] = some 2 := by decide +kernel
theorem d2_2 : decode jdk_29_method_69_code 2 = .ok (.if_icmp .gt 7, 3) := by decide +kernel
theorem b2_9_10 : oBlk jdk_29_method_69_code 9 [.iload_n 1] = some 10 := by decide +kernel
theorem d2_10 : decode jdk_29_method_69_code 10 = .ok (.ireturn, 1) := by decide +kernel
theorem b2_5_6 : oBlk jdk_29_method_69_code 5 [.iload_n 0] = some 6 := by decide +kernel
theorem d2_6 : decode jdk_29_method_69_code 6 = .ok (.goto 4, 3) := by decide +kernel
theorem b1_0_2 : oBlk method_2_code 0 [.bipush 16] = some 2 := by decide +kernel
theorem d1_2 : decode method_2_code 2 = .ok (.newarray .byte, 2) := by decide +kernel
theorem b1_4_6 : oBlk method_2_code 4 [.astore 4] = some 6 := by decide +kernel
theorem b1_6_12 : oBlk method_2_code 6 [.aload 4, .iconst 0, .lload_n 0, .l2i, .i2b] = some 12 := by decide +kernel
theorem d1_12 : decode method_2_code 12 = .ok (.bastore, 1) := by decide +kernel
theorem b1_13_22 : oBlk method_2_code 13 [.aload 4, .iconst 1, .lload_n 0, .bipush 8, .lushr, .l2i, .i2b] = some 22 := by decide +kernel
theorem d1_22 : decode method_2_code 22 = .ok (.bastore, 1) := by decide +kernel
theorem b1_23_32 : oBlk method_2_code 23 [.aload 4, .iconst 2, .lload_n 0, .bipush 16, .lushr, .l2i, .i2b] = some 32 := by decide +kernel
theorem d1_32 : decode method_2_code 32 = .ok (.bastore, 1) := by decide +kernel
theorem b1_33_42 : oBlk method_2_code 33 [.aload 4, .iconst 3, .lload_n 0, .bipush 24, .lushr, .l2i, .i2b] = some 42 := by decide +kernel
theorem d1_42 : decode method_2_code 42 = .ok (.bastore, 1) := by decide +kernel
theorem b1_43_52 : oBlk method_2_code 43 [.aload 4, .iconst 4, .lload_n 0, .bipush 32, .lushr, .l2i, .i2b] = some 52 := by decide +kernel
theorem d1_52 : decode method_2_code 52 = .ok (.bastore, 1) := by decide +kernel
theorem b1_53_62 : oBlk method_2_code 53 [.aload 4, .iconst 5, .lload_n 0, .bipush 40, .lushr, .l2i, .i2b] = some 62 := by decide +kernel
theorem d1_62 : decode method_2_code 62 = .ok (.bastore, 1) := by decide +kernel
theorem b1_63_73 : oBlk method_2_code 63 [.aload 4, .bipush 6, .lload_n 0, .bipush 48, .lushr, .l2i, .i2b] = some 73 := by decide +kernel
theorem d1_73 : decode method_2_code 73 = .ok (.bastore, 1) := by decide +kernel
theorem b1_74_84 : oBlk method_2_code 74 [.aload 4, .bipush 7, .lload_n 0, .bipush 56, .lushr, .l2i, .i2b] = some 84 := by decide +kernel
theorem d1_84 : decode method_2_code 84 = .ok (.bastore, 1) := by decide +kernel
theorem b1_85_92 : oBlk method_2_code 85 [.aload 4, .bipush 8, .lload_n 2, .l2i, .i2b] = some 92 := by decide +kernel
theorem d1_92 : decode method_2_code 92 = .ok (.bastore, 1) := by decide +kernel
theorem b1_93_103 : oBlk method_2_code 93 [.aload 4, .bipush 9, .lload_n 2, .bipush 8, .lushr, .l2i, .i2b] = some 103 := by decide +kernel
theorem d1_103 : decode method_2_code 103 = .ok (.bastore, 1) := by decide +kernel
theorem b1_104_114 : oBlk method_2_code 104 [.aload 4, .bipush 10, .lload_n 2, .bipush 16, .lushr, .l2i, .i2b] = some 114 := by decide +kernel
theorem d1_114 : decode method_2_code 114 = .ok (.bastore, 1) := by decide +kernel
theorem b1_115_125 : oBlk method_2_code 115 [.aload 4, .bipush 11, .lload_n 2, .bipush 24, .lushr, .l2i, .i2b] = some 125 := by decide +kernel
theorem d1_125 : decode method_2_code 125 = .ok (.bastore, 1) := by decide +kernel
theorem b1_126_136 : oBlk method_2_code 126 [.aload 4, .bipush 12, .lload_n 2, .bipush 32, .lushr, .l2i, .i2b] = some 136 := by decide +kernel
theorem d1_136 : decode method_2_code 136 = .ok (.bastore, 1) := by decide +kernel
theorem b1_137_147 : oBlk method_2_code 137 [.aload 4, .bipush 13, .lload_n 2, .bipush 40, .lushr, .l2i, .i2b] = some 147 := by decide +kernel
theorem d1_147 : decode method_2_code 147 = .ok (.bastore, 1) := by decide +kernel
theorem b1_148_158 : oBlk method_2_code 148 [.aload 4, .bipush 14, .lload_n 2, .bipush 48, .lushr, .l2i, .i2b] = some 158 := by decide +kernel
theorem d1_158 : decode method_2_code 158 = .ok (.bastore, 1) := by decide +kernel
theorem b1_159_169 : oBlk method_2_code 159 [.aload 4, .bipush 15, .lload_n 2, .bipush 56, .lushr, .l2i, .i2b] = some 169 := by decide +kernel
theorem d1_169 : decode method_2_code 169 = .ok (.bastore, 1) := by decide +kernel
theorem b1_170_172 : oBlk method_2_code 170 [.aload 4] = some 172 := by decide +kernel
theorem d1_172 : decode method_2_code 172 = .ok (.areturn, 1) := by decide +kernel
theorem pn_0 : plainName "com/example/plain_pool/plainpool/format/TopicDocidsHashPinLaw" = true := by first | (simp [plainName, overriddenIn]; done) | decide +kernel
theorem b3_0_2 : oBlk prog_55_method_26_code 0 [.lconst 0, .lstore_n 3] = some 2 := by decide +kernel
theorem b3_2_5 : oBlk prog_55_method_26_code 2 [.iload_n 1, .istore 5] = some 5 := by decide +kernel
theorem b3_5_8 : oBlk prog_55_method_26_code 5 [.iload 5, .iload_n 2] = some 8 := by decide +kernel
theorem d3_8 : decode prog_55_method_26_code 8 = .ok (.if_icmp .ge 25, 3) := by decide +kernel
theorem b3_33_39 : oBlk prog_55_method_26_code 33 [.lload_n 3, .lload_n 3, .bipush 33, .lushr, .lxor] = some 39 := by decide +kernel
theorem d3_39 : decode prog_55_method_26_code 39 = .ok (.ldc2_w 235, 3) := by decide +kernel
theorem b3_42_44 : oBlk prog_55_method_26_code 42 [.lmul, .lstore_n 3] = some 44 := by decide +kernel
theorem b3_44_50 : oBlk prog_55_method_26_code 44 [.lload_n 3, .lload_n 3, .bipush 33, .lushr, .lxor] = some 50 := by decide +kernel
theorem d3_50 : decode prog_55_method_26_code 50 = .ok (.ldc2_w 237, 3) := by decide +kernel
theorem b3_53_55 : oBlk prog_55_method_26_code 53 [.lmul, .lstore_n 3] = some 55 := by decide +kernel
theorem b3_55_61 : oBlk prog_55_method_26_code 55 [.lload_n 3, .lload_n 3, .bipush 33, .lushr, .lxor] = some 61 := by decide +kernel
theorem d3_61 : decode prog_55_method_26_code 61 = .ok (.lreturn, 1) := by decide +kernel
theorem d3_11 : decode prog_55_method_26_code 11 = .ok (.ldc2_w 233, 3) := by decide +kernel
theorem b3_14_19 : oBlk prog_55_method_26_code 14 [.lload_n 3, .lmul, .aload_n 0, .iload 5] = some 19 := by decide +kernel
theorem d3_19 : decode prog_55_method_26_code 19 = .ok (.baload, 1) := by decide +kernel
theorem b3_20_27 : oBlk prog_55_method_26_code 20 [.sipush 255, .iand, .i2l, .ladd, .lstore_n 3] = some 27 := by decide +kernel
theorem b3_27_30 : oBlk prog_55_method_26_code 27 [.iinc 5 1] = some 30 := by decide +kernel
theorem d3_30 : decode prog_55_method_26_code 30 = .ok (.goto (-25), 3) := by decide +kernel
theorem pn_1 : plainName "com/example/plain_pool/plainpool/format/TopicDocids" = true := by first | (simp [plainName, overriddenIn]; done) | decide +kernel
theorem b4_0_2 : oBlk method_3_code 0 [.lconst 0, .lstore_n 3] = some 2 := by decide +kernel
theorem b4_2_5 : oBlk method_3_code 2 [.iload_n 1, .istore 5] = some 5 := by decide +kernel
theorem b4_405_406 : oBlk method_3_code 405 [.lload_n 3] = some 406 := by decide +kernel
theorem d4_406 : decode method_3_code 406 = .ok (.lreturn, 1) := by decide +kernel
theorem b4_380_383 : oBlk method_3_code 380 [.iload 5, .iload_n 2] = some 383 := by decide +kernel
theorem d4_383 : decode method_3_code 383 = .ok (.if_icmp .ge 22, 3) := by decide +kernel
theorem d4_386 : decode method_3_code 386 = .ok (.ldc2_w 7, 3) := by decide +kernel
theorem b4_389_394 : oBlk method_3_code 389 [.lload_n 3, .lmul, .aload_n 0, .iload 5] = some 394 := by decide +kernel
theorem d4_394 : decode method_3_code 394 = .ok (.baload, 1) := by decide +kernel
theorem b4_395_402 : oBlk method_3_code 395 [.sipush 255, .iand, .i2l, .ladd, .lstore_n 3] = some 402 := by decide +kernel
theorem b4_402_405 : oBlk method_3_code 402 [.iinc 5 1] = some 405 := by decide +kernel
theorem b4_355_358 : oBlk method_3_code 355 [.iload 5, .iload_n 2] = some 358 := by decide +kernel
theorem d4_358 : decode method_3_code 358 = .ok (.if_icmp .ge 22, 3) := by decide +kernel
theorem d4_361 : decode method_3_code 361 = .ok (.ldc2_w 7, 3) := by decide +kernel
theorem b4_364_369 : oBlk method_3_code 364 [.lload_n 3, .lmul, .aload_n 0, .iload 5] = some 369 := by decide +kernel
theorem d4_369 : decode method_3_code 369 = .ok (.baload, 1) := by decide +kernel
theorem b4_370_377 : oBlk method_3_code 370 [.sipush 255, .iand, .i2l, .ladd, .lstore_n 3] = some 377 := by decide +kernel
theorem b4_377_380 : oBlk method_3_code 377 [.iinc 5 1] = some 380 := by decide +kernel
theorem b4_330_333 : oBlk method_3_code 330 [.iload 5, .iload_n 2] = some 333 := by decide +kernel
theorem d4_333 : decode method_3_code 333 = .ok (.if_icmp .ge 22, 3) := by decide +kernel
theorem d4_336 : decode method_3_code 336 = .ok (.ldc2_w 7, 3) := by decide +kernel
theorem b4_339_344 : oBlk method_3_code 339 [.lload_n 3, .lmul, .aload_n 0, .iload 5] = some 344 := by decide +kernel
theorem d4_344 : decode method_3_code 344 = .ok (.baload, 1) := by decide +kernel
theorem b4_345_352 : oBlk method_3_code 345 [.sipush 255, .iand, .i2l, .ladd, .lstore_n 3] = some 352 := by decide +kernel
theorem b4_352_355 : oBlk method_3_code 352 [.iinc 5 1] = some 355 := by decide +kernel
theorem b4_305_308 : oBlk method_3_code 305 [.iload 5, .iload_n 2] = some 308 := by decide +kernel
theorem d4_308 : decode method_3_code 308 = .ok (.if_icmp .ge 22, 3) := by decide +kernel
theorem d4_311 : decode method_3_code 311 = .ok (.ldc2_w 7, 3) := by decide +kernel
theorem b4_314_319 : oBlk method_3_code 314 [.lload_n 3, .lmul, .aload_n 0, .iload 5] = some 319 := by decide +kernel
theorem d4_319 : decode method_3_code 319 = .ok (.baload, 1) := by decide +kernel
theorem b4_320_327 : oBlk method_3_code 320 [.sipush 255, .iand, .i2l, .ladd, .lstore_n 3] = some 327 := by decide +kernel
theorem b4_327_330 : oBlk method_3_code 327 [.iinc 5 1] = some 330 := by decide +kernel
theorem b4_280_283 : oBlk method_3_code 280 [.iload 5, .iload_n 2] = some 283 := by decide +kernel
theorem d4_283 : decode method_3_code 283 = .ok (.if_icmp .ge 22, 3) := by decide +kernel
theorem d4_286 : decode method_3_code 286 = .ok (.ldc2_w 7, 3) := by decide +kernel
theorem b4_289_294 : oBlk method_3_code 289 [.lload_n 3, .lmul, .aload_n 0, .iload 5] = some 294 := by decide +kernel
theorem d4_294 : decode method_3_code 294 = .ok (.baload, 1) := by decide +kernel
theorem b4_295_302 : oBlk method_3_code 295 [.sipush 255, .iand, .i2l, .ladd, .lstore_n 3] = some 302 := by decide +kernel
theorem b4_302_305 : oBlk method_3_code 302 [.iinc 5 1] = some 305 := by decide +kernel
theorem b4_255_258 : oBlk method_3_code 255 [.iload 5, .iload_n 2] = some 258 := by decide +kernel
theorem d4_258 : decode method_3_code 258 = .ok (.if_icmp .ge 22, 3) := by decide +kernel
theorem d4_261 : decode method_3_code 261 = .ok (.ldc2_w 7, 3) := by decide +kernel
theorem b4_264_269 : oBlk method_3_code 264 [.lload_n 3, .lmul, .aload_n 0, .iload 5] = some 269 := by decide +kernel
theorem d4_269 : decode method_3_code 269 = .ok (.baload, 1) := by decide +kernel
theorem b4_270_277 : oBlk method_3_code 270 [.sipush 255, .iand, .i2l, .ladd, .lstore_n 3] = some 277 := by decide +kernel
theorem b4_277_280 : oBlk method_3_code 277 [.iinc 5 1] = some 280 := by decide +kernel
theorem b4_230_233 : oBlk method_3_code 230 [.iload 5, .iload_n 2] = some 233 := by decide +kernel
theorem d4_233 : decode method_3_code 233 = .ok (.if_icmp .ge 22, 3) := by decide +kernel
theorem d4_236 : decode method_3_code 236 = .ok (.ldc2_w 7, 3) := by decide +kernel
theorem b4_239_244 : oBlk method_3_code 239 [.lload_n 3, .lmul, .aload_n 0, .iload 5] = some 244 := by decide +kernel
theorem d4_244 : decode method_3_code 244 = .ok (.baload, 1) := by decide +kernel
theorem b4_245_252 : oBlk method_3_code 245 [.sipush 255, .iand, .i2l, .ladd, .lstore_n 3] = some 252 := by decide +kernel
theorem b4_252_255 : oBlk method_3_code 252 [.iinc 5 1] = some 255 := by decide +kernel
theorem b4_205_208 : oBlk method_3_code 205 [.iload 5, .iload_n 2] = some 208 := by decide +kernel
theorem d4_208 : decode method_3_code 208 = .ok (.if_icmp .ge 22, 3) := by decide +kernel
theorem d4_211 : decode method_3_code 211 = .ok (.ldc2_w 7, 3) := by decide +kernel
theorem b4_214_219 : oBlk method_3_code 214 [.lload_n 3, .lmul, .aload_n 0, .iload 5] = some 219 := by decide +kernel
theorem d4_219 : decode method_3_code 219 = .ok (.baload, 1) := by decide +kernel
theorem b4_220_227 : oBlk method_3_code 220 [.sipush 255, .iand, .i2l, .ladd, .lstore_n 3] = some 227 := by decide +kernel
theorem b4_227_230 : oBlk method_3_code 227 [.iinc 5 1] = some 230 := by decide +kernel
theorem b4_180_183 : oBlk method_3_code 180 [.iload 5, .iload_n 2] = some 183 := by decide +kernel
theorem d4_183 : decode method_3_code 183 = .ok (.if_icmp .ge 22, 3) := by decide +kernel
theorem d4_186 : decode method_3_code 186 = .ok (.ldc2_w 7, 3) := by decide +kernel
theorem b4_189_194 : oBlk method_3_code 189 [.lload_n 3, .lmul, .aload_n 0, .iload 5] = some 194 := by decide +kernel
theorem d4_194 : decode method_3_code 194 = .ok (.baload, 1) := by decide +kernel
theorem b4_195_202 : oBlk method_3_code 195 [.sipush 255, .iand, .i2l, .ladd, .lstore_n 3] = some 202 := by decide +kernel
theorem b4_202_205 : oBlk method_3_code 202 [.iinc 5 1] = some 205 := by decide +kernel
theorem b4_155_158 : oBlk method_3_code 155 [.iload 5, .iload_n 2] = some 158 := by decide +kernel
theorem d4_158 : decode method_3_code 158 = .ok (.if_icmp .ge 22, 3) := by decide +kernel
theorem d4_161 : decode method_3_code 161 = .ok (.ldc2_w 7, 3) := by decide +kernel
theorem b4_164_169 : oBlk method_3_code 164 [.lload_n 3, .lmul, .aload_n 0, .iload 5] = some 169 := by decide +kernel
theorem d4_169 : decode method_3_code 169 = .ok (.baload, 1) := by decide +kernel
theorem b4_170_177 : oBlk method_3_code 170 [.sipush 255, .iand, .i2l, .ladd, .lstore_n 3] = some 177 := by decide +kernel
theorem b4_177_180 : oBlk method_3_code 177 [.iinc 5 1] = some 180 := by decide +kernel
theorem b4_130_133 : oBlk method_3_code 130 [.iload 5, .iload_n 2] = some 133 := by decide +kernel
theorem d4_133 : decode method_3_code 133 = .ok (.if_icmp .ge 22, 3) := by decide +kernel
theorem d4_136 : decode method_3_code 136 = .ok (.ldc2_w 7, 3) := by decide +kernel
theorem b4_139_144 : oBlk method_3_code 139 [.lload_n 3, .lmul, .aload_n 0, .iload 5] = some 144 := by decide +kernel
theorem d4_144 : decode method_3_code 144 = .ok (.baload, 1) := by decide +kernel
theorem b4_145_152 : oBlk method_3_code 145 [.sipush 255, .iand, .i2l, .ladd, .lstore_n 3] = some 152 := by decide +kernel
theorem b4_152_155 : oBlk method_3_code 152 [.iinc 5 1] = some 155 := by decide +kernel
theorem b4_105_108 : oBlk method_3_code 105 [.iload 5, .iload_n 2] = some 108 := by decide +kernel
theorem d4_108 : decode method_3_code 108 = .ok (.if_icmp .ge 22, 3) := by decide +kernel
theorem d4_111 : decode method_3_code 111 = .ok (.ldc2_w 7, 3) := by decide +kernel
theorem b4_114_119 : oBlk method_3_code 114 [.lload_n 3, .lmul, .aload_n 0, .iload 5] = some 119 := by decide +kernel
theorem d4_119 : decode method_3_code 119 = .ok (.baload, 1) := by decide +kernel
theorem b4_120_127 : oBlk method_3_code 120 [.sipush 255, .iand, .i2l, .ladd, .lstore_n 3] = some 127 := by decide +kernel
theorem b4_127_130 : oBlk method_3_code 127 [.iinc 5 1] = some 130 := by decide +kernel
theorem b4_80_83 : oBlk method_3_code 80 [.iload 5, .iload_n 2] = some 83 := by decide +kernel
theorem d4_83 : decode method_3_code 83 = .ok (.if_icmp .ge 22, 3) := by decide +kernel
theorem d4_86 : decode method_3_code 86 = .ok (.ldc2_w 7, 3) := by decide +kernel
theorem b4_89_94 : oBlk method_3_code 89 [.lload_n 3, .lmul, .aload_n 0, .iload 5] = some 94 := by decide +kernel
theorem d4_94 : decode method_3_code 94 = .ok (.baload, 1) := by decide +kernel
theorem b4_95_102 : oBlk method_3_code 95 [.sipush 255, .iand, .i2l, .ladd, .lstore_n 3] = some 102 := by decide +kernel
theorem b4_102_105 : oBlk method_3_code 102 [.iinc 5 1] = some 105 := by decide +kernel
theorem b4_55_58 : oBlk method_3_code 55 [.iload 5, .iload_n 2] = some 58 := by decide +kernel
theorem d4_58 : decode method_3_code 58 = .ok (.if_icmp .ge 22, 3) := by decide +kernel
theorem d4_61 : decode method_3_code 61 = .ok (.ldc2_w 7, 3) := by decide +kernel
theorem b4_64_69 : oBlk method_3_code 64 [.lload_n 3, .lmul, .aload_n 0, .iload 5] = some 69 := by decide +kernel
theorem d4_69 : decode method_3_code 69 = .ok (.baload, 1) := by decide +kernel
theorem b4_70_77 : oBlk method_3_code 70 [.sipush 255, .iand, .i2l, .ladd, .lstore_n 3] = some 77 := by decide +kernel
theorem b4_77_80 : oBlk method_3_code 77 [.iinc 5 1] = some 80 := by decide +kernel
theorem b4_30_33 : oBlk method_3_code 30 [.iload 5, .iload_n 2] = some 33 := by decide +kernel
theorem d4_33 : decode method_3_code 33 = .ok (.if_icmp .ge 22, 3) := by decide +kernel
theorem d4_36 : decode method_3_code 36 = .ok (.ldc2_w 7, 3) := by decide +kernel
theorem b4_39_44 : oBlk method_3_code 39 [.lload_n 3, .lmul, .aload_n 0, .iload 5] = some 44 := by decide +kernel
theorem d4_44 : decode method_3_code 44 = .ok (.baload, 1) := by decide +kernel
theorem b4_45_52 : oBlk method_3_code 45 [.sipush 255, .iand, .i2l, .ladd, .lstore_n 3] = some 52 := by decide +kernel
theorem b4_52_55 : oBlk method_3_code 52 [.iinc 5 1] = some 55 := by decide +kernel
theorem b4_5_8 : oBlk method_3_code 5 [.iload 5, .iload_n 2] = some 8 := by decide +kernel
theorem d4_8 : decode method_3_code 8 = .ok (.if_icmp .ge 22, 3) := by decide +kernel
theorem d4_11 : decode method_3_code 11 = .ok (.ldc2_w 7, 3) := by decide +kernel
theorem b4_14_19 : oBlk method_3_code 14 [.lload_n 3, .lmul, .aload_n 0, .iload 5] = some 19 := by decide +kernel
theorem d4_19 : decode method_3_code 19 = .ok (.baload, 1) := by decide +kernel
theorem b4_20_27 : oBlk method_3_code 20 [.sipush 255, .iand, .i2l, .ladd, .lstore_n 3] = some 27 := by decide +kernel
theorem b4_27_30 : oBlk method_3_code 27 [.iinc 5 1] = some 30 := by decide +kernel
theorem b0_0_2 : oBlk code 0 [.lload_n 0, .lload_n 2] = some 2 := by decide +kernel
theorem d0_2 : decode code 2 = .ok (.invokestatic 9, 3) := by decide +kernel
theorem pd_0 : parseMethodDescriptor "(JJ)[B" = some ⟨[.long, .long], some (.array .byte)⟩ := by decide +kernel
theorem b0_5_7 : oBlk code 5 [.astore 7] = some 7 := by decide +kernel
theorem b0_7_9 : oBlk code 7 [.lload_n 0, .lload_n 2] = some 9 := by decide +kernel
theorem d0_9 : decode code 9 = .ok (.invokestatic 9, 3) := by decide +kernel
theorem b0_12_14 : oBlk code 12 [.astore 8] = some 14 := by decide +kernel
theorem b0_14_16 : oBlk code 14 [.iload 6] = some 16 := by decide +kernel
theorem d0_16 : decode code 16 = .ok (.ldc 15, 2) := by decide +kernel
theorem b0_18_21 : oBlk code 18 [.iand, .bipush 15] = some 21 := by decide +kernel
theorem d0_21 : decode code 21 = .ok (.irem, 1) := by decide +kernel
theorem b0_22_24 : oBlk code 22 [.istore 9] = some 24 := by decide +kernel
theorem b0_24_34 : oBlk code 24 [.iload 6, .bipush 8, .iushr, .bipush 7, .iand, .istore 10] = some 34 := by decide +kernel
theorem b0_34_42 : oBlk code 34 [.aload 8, .iload 9, .aload 8, .iload 9] = some 42 := by decide +kernel
theorem d0_42 : decode code 42 = .ok (.baload, 1) := by decide +kernel
theorem b0_43_47 : oBlk code 43 [.iload 10, .iadd, .i2b] = some 47 := by decide +kernel
theorem d0_47 : decode code 47 = .ok (.bastore, 1) := by decide +kernel
theorem b0_48_54 : oBlk code 48 [.aload 8, .iload 9, .iconst 1, .iadd] = some 54 := by decide +kernel
theorem b0_54_60 : oBlk code 54 [.aload 8, .iload 9, .iconst 1, .iadd] = some 60 := by decide +kernel
theorem d0_60 : decode code 60 = .ok (.baload, 1) := by decide +kernel
theorem b0_61_68 : oBlk code 61 [.bipush 31, .iload 10, .imul, .isub, .i2b] = some 68 := by decide +kernel
theorem d0_68 : decode code 68 = .ok (.bastore, 1) := by decide +kernel
theorem b0_69_74 : oBlk code 69 [.iload 4, .bipush 15, .iand] = some 74 := by decide +kernel
theorem b0_74_76 : oBlk code 74 [.istore 11] = some 76 := by decide +kernel
theorem b0_76_87 : oBlk code 76 [.bipush 16, .iload 11, .iload 4, .iconst 4, .iushr, .bipush 31, .iand] = some 87 := by decide +kernel
theorem b0_87_88 : oBlk code 87 [.iadd] = some 88 := by decide +kernel
theorem d0_88 : decode code 88 = .ok (.invokestatic 16, 3) := by decide +kernel
theorem pd_1 : parseMethodDescriptor "(II)I" = some ⟨[.int, .int], some .int⟩ := by decide +kernel
theorem b0_91_93 : oBlk code 91 [.istore 12] = some 93 := by decide +kernel
theorem b0_93_98 : oBlk code 93 [.iload 5, .bipush 15, .iand] = some 98 := by decide +kernel
theorem b0_98_100 : oBlk code 98 [.istore 13] = some 100 := by decide +kernel
theorem b0_100_111 : oBlk code 100 [.bipush 16, .iload 13, .iload 5, .iconst 4, .iushr, .bipush 31, .iand] = some 111 := by decide +kernel
theorem b0_111_112 : oBlk code 111 [.iadd] = some 112 := by decide +kernel
theorem d0_112 : decode code 112 = .ok (.invokestatic 16, 3) := by decide +kernel
theorem b0_115_117 : oBlk code 115 [.istore 14] = some 117 := by decide +kernel
theorem b0_117_123 : oBlk code 117 [.aload 7, .iload 11, .iload 12] = some 123 := by decide +kernel
theorem d0_123 : decode code 123 = .ok (.invokestatic 22, 3) := by decide +kernel
theorem pd_2 : parseMethodDescriptor "([BII)J" = some ⟨[(.array .byte), .int, .int], some .long⟩ := by decide +kernel
theorem b0_126_128 : oBlk code 126 [.lstore 15] = some 128 := by decide +kernel
theorem b0_128_134 : oBlk code 128 [.aload 7, .iload 13, .iload 14] = some 134 := by decide +kernel
theorem d0_134 : decode code 134 = .ok (.invokestatic 22, 3) := by decide +kernel
theorem b0_137_139 : oBlk code 137 [.lstore 17] = some 139 := by decide +kernel
theorem b0_139_145 : oBlk code 139 [.aload 8, .iload 11, .iload 12] = some 145 := by decide +kernel
theorem d0_145 : decode code 145 = .ok (.invokestatic 22, 3) := by decide +kernel
theorem b0_148_150 : oBlk code 148 [.lstore 19] = some 150 := by decide +kernel
theorem b0_150_156 : oBlk code 150 [.aload 7, .iload 11, .iload 12] = some 156 := by decide +kernel
theorem d0_156 : decode code 156 = .ok (.invokestatic 28, 3) := by decide +kernel
theorem b0_159_161 : oBlk code 159 [.lstore 21] = some 161 := by decide +kernel
theorem b0_161_167 : oBlk code 161 [.aload 7, .iload 13, .iload 14] = some 167 := by decide +kernel
theorem d0_167 : decode code 167 = .ok (.invokestatic 28, 3) := by decide +kernel
theorem b0_170_172 : oBlk code 170 [.lstore 23] = some 172 := by decide +kernel
theorem b0_172_178 : oBlk code 172 [.aload 8, .iload 11, .iload 12] = some 178 := by decide +kernel
theorem d0_178 : decode code 178 = .ok (.invokestatic 28, 3) := by decide +kernel
theorem b0_181_183 : oBlk code 181 [.lstore 25] = some 183 := by decide +kernel
theorem b0_183_188 : oBlk code 183 [.lload 15, .lload 17, .lcmp] = some 188 := by decide +kernel
theorem d0_188 : decode code 188 = .ok (.ifCond .ne 7, 3) := by decide +kernel
theorem b0_195_201 : oBlk code 195 [.iconst 0, .lload 21, .lload 23, .lcmp] = some 201 := by decide +kernel
theorem d0_201 : decode code 201 = .ok (.ifCond .ne 7, 3) := by decide +kernel
theorem b0_208_209 : oBlk code 208 [.iconst 0] = some 209 := by decide +kernel
theorem d0_209 : decode code 209 = .ok (.if_icmp .ne 7, 3) := by decide +kernel
theorem b0_212_213 : oBlk code 212 [.iconst 1] = some 213 := by decide +kernel
theorem d0_213 : decode code 213 = .ok (.goto 4, 3) := by decide +kernel
theorem b0_217_219 : oBlk code 217 [.istore 27] = some 219 := by decide +kernel
theorem b0_219_224 : oBlk code 219 [.lload 15, .lload 19, .lcmp] = some 224 := by decide +kernel
theorem d0_224 : decode code 224 = .ok (.ifCond .ne 7, 3) := by decide +kernel
theorem b0_231_237 : oBlk code 231 [.iconst 0, .lload 21, .lload 25, .lcmp] = some 237 := by decide +kernel
theorem d0_237 : decode code 237 = .ok (.ifCond .ne 7, 3) := by decide +kernel
theorem b0_244_245 : oBlk code 244 [.iconst 0] = some 245 := by decide +kernel
theorem d0_245 : decode code 245 = .ok (.if_icmp .ne 7, 3) := by decide +kernel
theorem b0_248_249 : oBlk code 248 [.iconst 1] = some 249 := by decide +kernel
theorem d0_249 : decode code 249 = .ok (.goto 4, 3) := by decide +kernel
theorem b0_253_255 : oBlk code 253 [.istore 28] = some 255 := by decide +kernel
theorem b0_255_257 : oBlk code 255 [.iload 27] = some 257 := by decide +kernel
theorem d0_257 : decode code 257 = .ok (.ifCond .eq 12, 3) := by decide +kernel
theorem b0_260_262 : oBlk code 260 [.iload 28] = some 262 := by decide +kernel
theorem d0_262 : decode code 262 = .ok (.ifCond .eq 7, 3) := by decide +kernel
theorem b0_265_266 : oBlk code 265 [.iconst 1] = some 266 := by decide +kernel
theorem d0_266 : decode code 266 = .ok (.goto 4, 3) := by decide +kernel
theorem d0_270 : decode code 270 = .ok (.ireturn, 1) := by decide +kernel
theorem b0_227_228 : oBlk code 227 [.iconst 1] = some 228 := by decide +kernel
theorem d0_228 : decode code 228 = .ok (.goto 4, 3) := by decide +kernel
theorem b0_232_237 : oBlk code 232 [.lload 21, .lload 25, .lcmp] = some 237 := by decide +kernel
theorem b0_240_241 : oBlk code 240 [.iconst 1] = some 241 := by decide +kernel
theorem d0_241 : decode code 241 = .ok (.goto 4, 3) := by decide +kernel
theorem b0_191_192 : oBlk code 191 [.iconst 1] = some 192 := by decide +kernel
theorem d0_192 : decode code 192 = .ok (.goto 4, 3) := by decide +kernel
theorem b0_196_201 : oBlk code 196 [.lload 21, .lload 23, .lcmp] = some 201 := by decide +kernel
theorem b0_204_205 : oBlk code 204 [.iconst 1] = some 205 := by decide +kernel
theorem d0_205 : decode code 205 = .ok (.goto 4, 3) := by decide +kernel
set_option maxRecDepth 65536 in
set_option maxHeartbeats 40000000 in
theorem rm_min (l : Launch) (Z : State) (a0 : Array Value) (hw : ∀ d ∈ tables_1, d.before a0 Z = true) (p1 p2 : Int32) (h0 : Heap) (hE0 : Ext Z.heap h0)  :
    OCtr l Z (⟨"java/lang/Math", "min", "(II)I"⟩ : MethodName) jdk_29_method_69_code 2 (some .int) ({ frames := 0, cells := 0, slots := 0, locals := 0 } : Room) #[(.int p1), (.int p2)] h0 (fun v h => v = some (.int (if p2 < p1 then p2 else p1)) ∧ h0 = h) := by
  refine o_body (ls0 := #[.val (.int p1), .val (.int p2)]) (Jvm.Free.JP.mathPlain rfl (by decide +kernel)) hE0 (fun m => by first | (simp [entryFrame, mkF, argsToLocals, Value.category]; done) | rfl) ?_
  intro pG eG sG mG bG meG cG
  refine o_blk (pc' := 2) (st' := [(.int p2), (.int p1)]) (ls' := #[.val (.int p1), .val (.int p2)]) b2_0_2 rfl ?_
  refine o_ic (pc' := 9) (pc'' := 5) d2_2 (by decide) (by decide) rfl (fun (hc2_1 : p2 < p1) => ?_) (fun (hc2_1 : ¬ p2 < p1) => ?_)
  ·
    refine o_blk (pc' := 10) (st' := [(.int p2)]) (ls' := #[.val (.int p1), .val (.int p2)]) b2_9_10 rfl ?_
    exact o_retI d2_10 (by decide) (by decide) rfl ⟨by simp [*], rfl⟩
  ·
    refine o_blk (pc' := 6) (st' := [(.int p1)]) (ls' := #[.val (.int p1), .val (.int p2)]) b2_5_6 rfl ?_
    refine o_goto (pc' := 10) d2_6 (by decide) (by decide) ?_
    exact o_retI d2_10 (by decide) (by decide) rfl ⟨by simp [*], rfl⟩
set_option maxRecDepth 65536 in
set_option maxHeartbeats 40000000 in
theorem rm_bytes (l : Launch) (Z : State) (a0 : Array Value) (hw : ∀ d ∈ tables_1, d.before a0 Z = true) (q1 q2 : Int64) (h0 : Heap) (hE0 : Ext Z.heap h0)  :
    OCtr l Z (⟨"com/example/plain_pool/plainpool/format/TopicDocidsHashPinLaw", "bytesOf", "(JJ)[B"⟩ : MethodName) method_2_code 5 (some (.array .byte)) ({ frames := 0, cells := 1, slots := 16, locals := 0 } : Room) #[(.long q1), (.long q2)] h0 (fun v h => ∃ (a : Addr) (k0 : ClassId) (bs : List Int32), v = some (.ref a) ∧ Z.heap.size ≤ a ∧ h0.size ≤ a ∧ bs.length = 16 ∧ OArr Z h a k0 .byte (bs.map Value.int) ∧ Keep h0 h []) := by
  refine o_body (ls0 := #[.val (.long q1), .second, .val (.long q2), .second, .unset]) (plainFor_of_name pn_0) hE0 (fun m => by first | (simp [entryFrame, mkF, argsToLocals, Value.category]; done) | rfl) ?_
  intro pG eG sG mG bG meG cG
  refine o_blk (pc' := 2) (st' := [(.int (16 : Int32))]) (ls' := #[.val (.long q1), .second, .val (.long q2), .second, .unset]) b1_0_2 rfl ?_
  refine o_newP (n := 16) (cap := 16) (pc' := 4) (own_word hw 4 rfl) rfl (by omega) (by decide) d1_2 (by decide) (by decide) rfl ?_
  intro h1 a1 k1 ea1 na1 X1 F1
  have Kp2 := (Keep.refl h0 []).ext X1
  refine o_blk (pc' := 6) (st' := []) (ls' := #[.val (.long q1), .second, .val (.long q2), .second, .val (.ref a1)]) b1_4_6 rfl ?_
  refine o_blk (pc' := 12) (st' := [(.int q1.toInt32.toInt8.toInt32), (.int (0 : Int32)), (.ref a1)]) (ls' := #[.val (.long q1), .second, .val (.long q2), .second, .val (.ref a1)]) b1_6_12 rfl ?_
  refine o_bast (i := 0) (pc' := 13) F1 rfl (by simp) na1 d1_12 rfl ?_
  intro h3 W3
  have F4 := F1.set W3
  have Kp5 := Kp2.wr W3 (Or.inr (by rw [ea1]; exact Nat.le_refl _))
  refine o_blk (pc' := 22) (st' := [(.int (XT.ushrL q1 (8 : Int32)).toInt32.toInt8.toInt32), (.int (1 : Int32)), (.ref a1)]) (ls' := #[.val (.long q1), .second, .val (.long q2), .second, .val (.ref a1)]) b1_13_22 rfl ?_
  refine o_bast (i := 1) (pc' := 23) F4 rfl (by simp) na1 d1_22 rfl ?_
  intro h6 W6
  have F7 := F4.set W6
  have Kp8 := Kp5.wr W6 (Or.inr (by rw [ea1]; exact Nat.le_refl _))
  refine o_blk (pc' := 32) (st' := [(.int (XT.ushrL q1 (16 : Int32)).toInt32.toInt8.toInt32), (.int (2 : Int32)), (.ref a1)]) (ls' := #[.val (.long q1), .second, .val (.long q2), .second, .val (.ref a1)]) b1_23_32 rfl ?_
  refine o_bast (i := 2) (pc' := 33) F7 rfl (by simp) na1 d1_32 rfl ?_
  intro h9 W9
  have F10 := F7.set W9
  have Kp11 := Kp8.wr W9 (Or.inr (by rw [ea1]; exact Nat.le_refl _))
  refine o_blk (pc' := 42) (st' := [(.int (XT.ushrL q1 (24 : Int32)).toInt32.toInt8.toInt32), (.int (3 : Int32)), (.ref a1)]) (ls' := #[.val (.long q1), .second, .val (.long q2), .second, .val (.ref a1)]) b1_33_42 rfl ?_
  refine o_bast (i := 3) (pc' := 43) F10 rfl (by simp) na1 d1_42 rfl ?_
  intro h12 W12
  have F13 := F10.set W12
  have Kp14 := Kp11.wr W12 (Or.inr (by rw [ea1]; exact Nat.le_refl _))
  refine o_blk (pc' := 52) (st' := [(.int (XT.ushrL q1 (32 : Int32)).toInt32.toInt8.toInt32), (.int (4 : Int32)), (.ref a1)]) (ls' := #[.val (.long q1), .second, .val (.long q2), .second, .val (.ref a1)]) b1_43_52 rfl ?_
  refine o_bast (i := 4) (pc' := 53) F13 rfl (by simp) na1 d1_52 rfl ?_
  intro h15 W15
  have F16 := F13.set W15
  have Kp17 := Kp14.wr W15 (Or.inr (by rw [ea1]; exact Nat.le_refl _))
  refine o_blk (pc' := 62) (st' := [(.int (XT.ushrL q1 (40 : Int32)).toInt32.toInt8.toInt32), (.int (5 : Int32)), (.ref a1)]) (ls' := #[.val (.long q1), .second, .val (.long q2), .second, .val (.ref a1)]) b1_53_62 rfl ?_
  refine o_bast (i := 5) (pc' := 63) F16 rfl (by simp) na1 d1_62 rfl ?_
  intro h18 W18
  have F19 := F16.set W18
  have Kp20 := Kp17.wr W18 (Or.inr (by rw [ea1]; exact Nat.le_refl _))
  refine o_blk (pc' := 73) (st' := [(.int (XT.ushrL q1 (48 : Int32)).toInt32.toInt8.toInt32), (.int (6 : Int32)), (.ref a1)]) (ls' := #[.val (.long q1), .second, .val (.long q2), .second, .val (.ref a1)]) b1_63_73 rfl ?_
  refine o_bast (i := 6) (pc' := 74) F19 rfl (by simp) na1 d1_73 rfl ?_
  intro h21 W21
  have F22 := F19.set W21
  have Kp23 := Kp20.wr W21 (Or.inr (by rw [ea1]; exact Nat.le_refl _))
  refine o_blk (pc' := 84) (st' := [(.int (XT.ushrL q1 (56 : Int32)).toInt32.toInt8.toInt32), (.int (7 : Int32)), (.ref a1)]) (ls' := #[.val (.long q1), .second, .val (.long q2), .second, .val (.ref a1)]) b1_74_84 rfl ?_
  refine o_bast (i := 7) (pc' := 85) F22 rfl (by simp) na1 d1_84 rfl ?_
  intro h24 W24
  have F25 := F22.set W24
  have Kp26 := Kp23.wr W24 (Or.inr (by rw [ea1]; exact Nat.le_refl _))
  refine o_blk (pc' := 92) (st' := [(.int q2.toInt32.toInt8.toInt32), (.int (8 : Int32)), (.ref a1)]) (ls' := #[.val (.long q1), .second, .val (.long q2), .second, .val (.ref a1)]) b1_85_92 rfl ?_
  refine o_bast (i := 8) (pc' := 93) F25 rfl (by simp) na1 d1_92 rfl ?_
  intro h27 W27
  have F28 := F25.set W27
  have Kp29 := Kp26.wr W27 (Or.inr (by rw [ea1]; exact Nat.le_refl _))
  refine o_blk (pc' := 103) (st' := [(.int (XT.ushrL q2 (8 : Int32)).toInt32.toInt8.toInt32), (.int (9 : Int32)), (.ref a1)]) (ls' := #[.val (.long q1), .second, .val (.long q2), .second, .val (.ref a1)]) b1_93_103 rfl ?_
  refine o_bast (i := 9) (pc' := 104) F28 rfl (by simp) na1 d1_103 rfl ?_
  intro h30 W30
  have F31 := F28.set W30
  have Kp32 := Kp29.wr W30 (Or.inr (by rw [ea1]; exact Nat.le_refl _))
  refine o_blk (pc' := 114) (st' := [(.int (XT.ushrL q2 (16 : Int32)).toInt32.toInt8.toInt32), (.int (10 : Int32)), (.ref a1)]) (ls' := #[.val (.long q1), .second, .val (.long q2), .second, .val (.ref a1)]) b1_104_114 rfl ?_
  refine o_bast (i := 10) (pc' := 115) F31 rfl (by simp) na1 d1_114 rfl ?_
  intro h33 W33
  have F34 := F31.set W33
  have Kp35 := Kp32.wr W33 (Or.inr (by rw [ea1]; exact Nat.le_refl _))
  refine o_blk (pc' := 125) (st' := [(.int (XT.ushrL q2 (24 : Int32)).toInt32.toInt8.toInt32), (.int (11 : Int32)), (.ref a1)]) (ls' := #[.val (.long q1), .second, .val (.long q2), .second, .val (.ref a1)]) b1_115_125 rfl ?_
  refine o_bast (i := 11) (pc' := 126) F34 rfl (by simp) na1 d1_125 rfl ?_
  intro h36 W36
  have F37 := F34.set W36
  have Kp38 := Kp35.wr W36 (Or.inr (by rw [ea1]; exact Nat.le_refl _))
  refine o_blk (pc' := 136) (st' := [(.int (XT.ushrL q2 (32 : Int32)).toInt32.toInt8.toInt32), (.int (12 : Int32)), (.ref a1)]) (ls' := #[.val (.long q1), .second, .val (.long q2), .second, .val (.ref a1)]) b1_126_136 rfl ?_
  refine o_bast (i := 12) (pc' := 137) F37 rfl (by simp) na1 d1_136 rfl ?_
  intro h39 W39
  have F40 := F37.set W39
  have Kp41 := Kp38.wr W39 (Or.inr (by rw [ea1]; exact Nat.le_refl _))
  refine o_blk (pc' := 147) (st' := [(.int (XT.ushrL q2 (40 : Int32)).toInt32.toInt8.toInt32), (.int (13 : Int32)), (.ref a1)]) (ls' := #[.val (.long q1), .second, .val (.long q2), .second, .val (.ref a1)]) b1_137_147 rfl ?_
  refine o_bast (i := 13) (pc' := 148) F40 rfl (by simp) na1 d1_147 rfl ?_
  intro h42 W42
  have F43 := F40.set W42
  have Kp44 := Kp41.wr W42 (Or.inr (by rw [ea1]; exact Nat.le_refl _))
  refine o_blk (pc' := 158) (st' := [(.int (XT.ushrL q2 (48 : Int32)).toInt32.toInt8.toInt32), (.int (14 : Int32)), (.ref a1)]) (ls' := #[.val (.long q1), .second, .val (.long q2), .second, .val (.ref a1)]) b1_148_158 rfl ?_
  refine o_bast (i := 14) (pc' := 159) F43 rfl (by simp) na1 d1_158 rfl ?_
  intro h45 W45
  have F46 := F43.set W45
  have Kp47 := Kp44.wr W45 (Or.inr (by rw [ea1]; exact Nat.le_refl _))
  refine o_blk (pc' := 169) (st' := [(.int (XT.ushrL q2 (56 : Int32)).toInt32.toInt8.toInt32), (.int (15 : Int32)), (.ref a1)]) (ls' := #[.val (.long q1), .second, .val (.long q2), .second, .val (.ref a1)]) b1_159_169 rfl ?_
  refine o_bast (i := 15) (pc' := 170) F46 rfl (by simp) na1 d1_169 rfl ?_
  intro h48 W48
  have F49 := F46.set W48
  have Kp50 := Kp47.wr W48 (Or.inr (by rw [ea1]; exact Nat.le_refl _))
  refine o_blk (pc' := 172) (st' := [(.ref a1)]) (ls' := #[.val (.long q1), .second, .val (.long q2), .second, .val (.ref a1)]) b1_170_172 rfl ?_
  exact o_retA d1_172 (by decide) (by decide) rfl rfl rfl ⟨a1, k1, [(nar .byte q1.toInt32.toInt8.toInt32), (nar .byte (XT.ushrL q1 (8 : Int32)).toInt32.toInt8.toInt32), (nar .byte (XT.ushrL q1 (16 : Int32)).toInt32.toInt8.toInt32), (nar .byte (XT.ushrL q1 (24 : Int32)).toInt32.toInt8.toInt32), (nar .byte (XT.ushrL q1 (32 : Int32)).toInt32.toInt8.toInt32), (nar .byte (XT.ushrL q1 (40 : Int32)).toInt32.toInt8.toInt32), (nar .byte (XT.ushrL q1 (48 : Int32)).toInt32.toInt8.toInt32), (nar .byte (XT.ushrL q1 (56 : Int32)).toInt32.toInt8.toInt32), (nar .byte q2.toInt32.toInt8.toInt32), (nar .byte (XT.ushrL q2 (8 : Int32)).toInt32.toInt8.toInt32), (nar .byte (XT.ushrL q2 (16 : Int32)).toInt32.toInt8.toInt32), (nar .byte (XT.ushrL q2 (24 : Int32)).toInt32.toInt8.toInt32), (nar .byte (XT.ushrL q2 (32 : Int32)).toInt32.toInt8.toInt32), (nar .byte (XT.ushrL q2 (40 : Int32)).toInt32.toInt8.toInt32), (nar .byte (XT.ushrL q2 (48 : Int32)).toInt32.toInt8.toInt32), (nar .byte (XT.ushrL q2 (56 : Int32)).toInt32.toInt8.toInt32)], rfl, na1, by rw [ea1]; exact Nat.le_refl _, rfl, F49, Kp50⟩
set_option maxRecDepth 65536 in
set_option maxHeartbeats 40000000 in
theorem rm_hash (l : Launch) (Z : State) (a0 : Array Value) (hw : ∀ d ∈ tables_1, d.before a0 Z = true)  (h0 : Heap) (hE0 : Ext Z.heap h0) (a : Addr) (k0 : ClassId) (bs : List Int32) (s0 e0 : Nat) (hs : s0 ≤ e0) (he : e0 ≤ 16) (hl : bs.length = 16) (F : OArr Z h0 a k0 .byte (bs.map Value.int)) :
    OCtr l Z (⟨"com/example/plain_pool/plainpool/format/TopicDocids", "hash", "([BII)J"⟩ : MethodName) prog_55_method_26_code 6 (some .long) ({ frames := 0, cells := 0, slots := 0, locals := 0 } : Room) #[(.ref a), (.int (Int32.ofNat s0)), (.int (Int32.ofNat e0))] h0 (fun v h => v = some (.long (own_mix (own_p bs s0 (e0 - s0)))) ∧ h0 = h) := by
  refine o_body (ls0 := #[.val (.ref a), .val (.int (Int32.ofNat s0)), .val (.int (Int32.ofNat e0)), .unset, .unset, .unset]) (plainFor_of_name pn_1) hE0 (fun m => by first | (simp [entryFrame, mkF, argsToLocals, Value.category]; done) | rfl) ?_
  intro pG eG sG mG bG meG cG
  refine o_blk (pc' := 2) (st' := []) (ls' := #[.val (.ref a), .val (.int (Int32.ofNat s0)), .val (.int (Int32.ofNat e0)), .val (.long (0 : Int64)), .second, .unset]) b3_0_2 rfl ?_
  refine o_blk (pc' := 5) (st' := []) (ls' := #[.val (.ref a), .val (.int (Int32.ofNat s0)), .val (.int (Int32.ofNat e0)), .val (.long (0 : Int64)), .second, .val (.int (Int32.ofNat s0))]) b3_2_5 rfl ?_
  have L5 : ∀ (d n : Nat), n + d = e0 - s0 → OG pG l eG ({ frames := 0, cells := 0, slots := 0, locals := 0 } : Room) sG mG #[(.ref a), (.int (Int32.ofNat s0)), (.int (Int32.ofNat e0))] bG meG cG Z (⟨"com/example/plain_pool/plainpool/format/TopicDocids", "hash", "([BII)J"⟩ : MethodName).cls (⟨"com/example/plain_pool/plainpool/format/TopicDocids", "hash", "([BII)J"⟩ : MethodName).name prog_55_method_26_code 6 (some .long) (fun v h => v = some (.long (own_mix (own_p bs s0 (e0 - s0)))) ∧ h0 = h) ({ frames := 0, cells := 0, slots := 0, locals := 0 } : Room).cells ({ frames := 0, cells := 0, slots := 0, locals := 0 } : Room).slots h0 0 0 (mkF mG 5 #[.val (.ref a), .val (.int (Int32.ofNat s0)), .val (.int (Int32.ofNat e0)), .val (.long (own_p bs s0 n)), .second, .val (.int (Int32.ofNat (s0 + n)))] []) := by
    intro d
    induction d with
    | zero =>
      intro n hn
      refine o_blk (pc' := 8) (st' := [(.int (Int32.ofNat e0)), (.int (Int32.ofNat (s0 + n)))]) (ls' := #[.val (.ref a), .val (.int (Int32.ofNat s0)), .val (.int (Int32.ofNat e0)), .val (.long (own_p bs s0 n)), .second, .val (.int (Int32.ofNat (s0 + n)))]) b3_5_8 rfl ?_
      refine o_icY (pc' := 33) d3_8 (by decide) (by decide) (fun q => absurd ((own_ltn (by omega) (by omega)).mp q) (by omega) : ¬ (Int32.ofNat (s0 + n)) < (Int32.ofNat e0)) ?_
      refine o_blk (pc' := 39) (st' := [(.long ((own_p bs s0 n) ^^^ (XT.ushrL (own_p bs s0 n) (33 : Int32))))]) (ls' := #[.val (.ref a), .val (.int (Int32.ofNat s0)), .val (.int (Int32.ofNat e0)), .val (.long (own_p bs s0 n)), .second, .val (.int (Int32.ofNat (s0 + n)))]) b3_33_39 rfl ?_
      refine o_ldc2 (pc' := 42) (v := -49064778989728563) (own_word hw 14 rfl) d3_39 rfl ?_
      refine o_blk (pc' := 44) (st' := []) (ls' := #[.val (.ref a), .val (.int (Int32.ofNat s0)), .val (.int (Int32.ofNat e0)), .val (.long (((own_p bs s0 n) ^^^ (XT.ushrL (own_p bs s0 n) (33 : Int32))) * (-49064778989728563 : Int64))), .second, .val (.int (Int32.ofNat (s0 + n)))]) b3_42_44 rfl ?_
      refine o_blk (pc' := 50) (st' := [(.long ((((own_p bs s0 n) ^^^ (XT.ushrL (own_p bs s0 n) (33 : Int32))) * (-49064778989728563 : Int64)) ^^^ (XT.ushrL (((own_p bs s0 n) ^^^ (XT.ushrL (own_p bs s0 n) (33 : Int32))) * (-49064778989728563 : Int64)) (33 : Int32))))]) (ls' := #[.val (.ref a), .val (.int (Int32.ofNat s0)), .val (.int (Int32.ofNat e0)), .val (.long (((own_p bs s0 n) ^^^ (XT.ushrL (own_p bs s0 n) (33 : Int32))) * (-49064778989728563 : Int64))), .second, .val (.int (Int32.ofNat (s0 + n)))]) b3_44_50 rfl ?_
      refine o_ldc2 (pc' := 53) (v := -4265267296055464877) (own_word hw 15 rfl) d3_50 rfl ?_
      refine o_blk (pc' := 55) (st' := []) (ls' := #[.val (.ref a), .val (.int (Int32.ofNat s0)), .val (.int (Int32.ofNat e0)), .val (.long (((((own_p bs s0 n) ^^^ (XT.ushrL (own_p bs s0 n) (33 : Int32))) * (-49064778989728563 : Int64)) ^^^ (XT.ushrL (((own_p bs s0 n) ^^^ (XT.ushrL (own_p bs s0 n) (33 : Int32))) * (-49064778989728563 : Int64)) (33 : Int32))) * (-4265267296055464877 : Int64))), .second, .val (.int (Int32.ofNat (s0 + n)))]) b3_53_55 rfl ?_
      refine o_blk (pc' := 61) (st' := [(.long ((((((own_p bs s0 n) ^^^ (XT.ushrL (own_p bs s0 n) (33 : Int32))) * (-49064778989728563 : Int64)) ^^^ (XT.ushrL (((own_p bs s0 n) ^^^ (XT.ushrL (own_p bs s0 n) (33 : Int32))) * (-49064778989728563 : Int64)) (33 : Int32))) * (-4265267296055464877 : Int64)) ^^^ (XT.ushrL (((((own_p bs s0 n) ^^^ (XT.ushrL (own_p bs s0 n) (33 : Int32))) * (-49064778989728563 : Int64)) ^^^ (XT.ushrL (((own_p bs s0 n) ^^^ (XT.ushrL (own_p bs s0 n) (33 : Int32))) * (-49064778989728563 : Int64)) (33 : Int32))) * (-4265267296055464877 : Int64)) (33 : Int32))))]) (ls' := #[.val (.ref a), .val (.int (Int32.ofNat s0)), .val (.int (Int32.ofNat e0)), .val (.long (((((own_p bs s0 n) ^^^ (XT.ushrL (own_p bs s0 n) (33 : Int32))) * (-49064778989728563 : Int64)) ^^^ (XT.ushrL (((own_p bs s0 n) ^^^ (XT.ushrL (own_p bs s0 n) (33 : Int32))) * (-49064778989728563 : Int64)) (33 : Int32))) * (-4265267296055464877 : Int64))), .second, .val (.int (Int32.ofNat (s0 + n)))]) b3_55_61 rfl ?_
      exact o_retL d3_61 (by decide) (by decide) rfl ⟨by rw [show e0 - s0 = n by omega]; rfl, rfl⟩
    | succ d ih =>
      intro n hn
      refine o_blk (pc' := 8) (st' := [(.int (Int32.ofNat e0)), (.int (Int32.ofNat (s0 + n)))]) (ls' := #[.val (.ref a), .val (.int (Int32.ofNat s0)), .val (.int (Int32.ofNat e0)), .val (.long (own_p bs s0 n)), .second, .val (.int (Int32.ofNat (s0 + n)))]) b3_5_8 rfl ?_
      refine o_icN (pc' := 11) d3_8 rfl ((own_ltn (by omega) (by omega)).mpr (by omega) : (Int32.ofNat (s0 + n)) < (Int32.ofNat e0)) ?_
      refine o_ldc2 (pc' := 14) (v := 31) (own_word hw 19 rfl) d3_11 rfl ?_
      refine o_blk (pc' := 19) (st' := [(.int (Int32.ofNat (s0 + n))), (.ref a), (.long ((31 : Int64) * (own_p bs s0 n)))]) (ls' := #[.val (.ref a), .val (.int (Int32.ofNat s0)), .val (.int (Int32.ofNat e0)), .val (.long (own_p bs s0 n)), .second, .val (.int (Int32.ofNat (s0 + n)))]) b3_14_19 rfl ?_
      refine o_bald (i := (s0 + n)) (v := (.int (bs.getD (s0 + n) 0))) (pc' := 20) F rfl (own_get (by rw [hl]; omega)) d3_19 rfl ?_
      refine o_blk (pc' := 27) (st' := []) (ls' := #[.val (.ref a), .val (.int (Int32.ofNat s0)), .val (.int (Int32.ofNat e0)), .val (.long (((31 : Int64) * (own_p bs s0 n)) + ((bs.getD (s0 + n) 0) &&& (255 : Int32)).toInt64)), .second, .val (.int (Int32.ofNat (s0 + n)))]) b3_20_27 rfl ?_
      refine o_blk (pc' := 30) (st' := []) (ls' := #[.val (.ref a), .val (.int (Int32.ofNat s0)), .val (.int (Int32.ofNat e0)), .val (.long (((31 : Int64) * (own_p bs s0 n)) + ((bs.getD (s0 + n) 0) &&& (255 : Int32)).toInt64)), .second, .val (.int ((Int32.ofNat (s0 + n)) + (1 : Int32)))]) b3_27_30 rfl ?_
      refine o_goto (pc' := 5) d3_30 (by decide) (by decide) ?_
      rw [show (Int32.ofNat (s0 + n) + (1 : Int32)) = Int32.ofNat (s0 + (n + 1)) from own_addn (s0 + n) 1]
      exact ih (n + 1) (by omega)
  exact L5 (e0 - s0) 0 (by omega)
set_option maxRecDepth 65536 in
set_option maxHeartbeats 40000000 in
theorem rm_poly (l : Launch) (Z : State) (a0 : Array Value) (hw : ∀ d ∈ tables_1, d.before a0 Z = true)  (h0 : Heap) (hE0 : Ext Z.heap h0) (a : Addr) (k0 : ClassId) (bs : List Int32) (s0 e0 : Nat) (hs : s0 ≤ e0) (he : e0 ≤ 16) (hl : bs.length = 16) (F : OArr Z h0 a k0 .byte (bs.map Value.int)) :
    OCtr l Z (⟨"com/example/plain_pool/plainpool/format/TopicDocidsHashPinLaw", "poly", "([BII)J"⟩ : MethodName) method_3_code 6 (some .long) ({ frames := 0, cells := 0, slots := 0, locals := 0 } : Room) #[(.ref a), (.int (Int32.ofNat s0)), (.int (Int32.ofNat e0))] h0 (fun v h => v = some (.long (own_p bs s0 (e0 - s0))) ∧ h0 = h) := by
  refine o_body (ls0 := #[.val (.ref a), .val (.int (Int32.ofNat s0)), .val (.int (Int32.ofNat e0)), .unset, .unset, .unset]) (plainFor_of_name pn_0) hE0 (fun m => by first | (simp [entryFrame, mkF, argsToLocals, Value.category]; done) | rfl) ?_
  intro pG eG sG mG bG meG cG
  refine o_blk (pc' := 2) (st' := []) (ls' := #[.val (.ref a), .val (.int (Int32.ofNat s0)), .val (.int (Int32.ofNat e0)), .val (.long (0 : Int64)), .second, .unset]) b4_0_2 rfl ?_
  refine o_blk (pc' := 5) (st' := []) (ls' := #[.val (.ref a), .val (.int (Int32.ofNat s0)), .val (.int (Int32.ofNat e0)), .val (.long (0 : Int64)), .second, .val (.int (Int32.ofNat s0))]) b4_2_5 rfl ?_
  have J16 : ∀ n : Nat, n ≤ e0 - s0 → (n = e0 - s0 ∨ n = 16) → OG pG l eG ({ frames := 0, cells := 0, slots := 0, locals := 0 } : Room) sG mG #[(.ref a), (.int (Int32.ofNat s0)), (.int (Int32.ofNat e0))] bG meG cG Z (⟨"com/example/plain_pool/plainpool/format/TopicDocidsHashPinLaw", "poly", "([BII)J"⟩ : MethodName).cls (⟨"com/example/plain_pool/plainpool/format/TopicDocidsHashPinLaw", "poly", "([BII)J"⟩ : MethodName).name method_3_code 6 (some .long) (fun v h => v = some (.long (own_p bs s0 (e0 - s0))) ∧ h0 = h) ({ frames := 0, cells := 0, slots := 0, locals := 0 } : Room).cells ({ frames := 0, cells := 0, slots := 0, locals := 0 } : Room).slots h0 0 0 (mkF mG 405 #[.val (.ref a), .val (.int (Int32.ofNat s0)), .val (.int (Int32.ofNat e0)), .val (.long (own_p bs s0 n)), .second, .val (.int (Int32.ofNat (s0 + n)))] []) := by
    intro n hn hk
    refine o_blk (pc' := 406) (st' := [(.long (own_p bs s0 n))]) (ls' := #[.val (.ref a), .val (.int (Int32.ofNat s0)), .val (.int (Int32.ofNat e0)), .val (.long (own_p bs s0 n)), .second, .val (.int (Int32.ofNat (s0 + n)))]) b4_405_406 rfl ?_
    exact o_retL d4_406 (by decide) (by decide) rfl ⟨by rw [show e0 - s0 = n by omega], rfl⟩
  have J15 : ∀ n : Nat, n ≤ e0 - s0 → (n = e0 - s0 ∨ n = 15) → OG pG l eG ({ frames := 0, cells := 0, slots := 0, locals := 0 } : Room) sG mG #[(.ref a), (.int (Int32.ofNat s0)), (.int (Int32.ofNat e0))] bG meG cG Z (⟨"com/example/plain_pool/plainpool/format/TopicDocidsHashPinLaw", "poly", "([BII)J"⟩ : MethodName).cls (⟨"com/example/plain_pool/plainpool/format/TopicDocidsHashPinLaw", "poly", "([BII)J"⟩ : MethodName).name method_3_code 6 (some .long) (fun v h => v = some (.long (own_p bs s0 (e0 - s0))) ∧ h0 = h) ({ frames := 0, cells := 0, slots := 0, locals := 0 } : Room).cells ({ frames := 0, cells := 0, slots := 0, locals := 0 } : Room).slots h0 0 0 (mkF mG 380 #[.val (.ref a), .val (.int (Int32.ofNat s0)), .val (.int (Int32.ofNat e0)), .val (.long (own_p bs s0 n)), .second, .val (.int (Int32.ofNat (s0 + n)))] []) := by
    intro n hn hk
    refine o_blk (pc' := 383) (st' := [(.int (Int32.ofNat e0)), (.int (Int32.ofNat (s0 + n)))]) (ls' := #[.val (.ref a), .val (.int (Int32.ofNat s0)), .val (.int (Int32.ofNat e0)), .val (.long (own_p bs s0 n)), .second, .val (.int (Int32.ofNat (s0 + n)))]) b4_380_383 rfl ?_
    refine o_ic (pc' := 405) (pc'' := 386) d4_383 (by decide) (by decide) rfl (fun (hc383_1 : ¬ (Int32.ofNat (s0 + n)) < (Int32.ofNat e0)) => ?_) (fun (hc383_1 : (Int32.ofNat (s0 + n)) < (Int32.ofNat e0)) => ?_)
    ·
      exact J16 n hn (Or.inl (Nat.le_antisymm hn (Nat.le_of_not_lt fun q => hc383_1 ((own_ltn (by omega) (by omega)).mpr (by omega)))))
    ·
      have q1 := (own_ltn (i := s0 + n) (j := e0) (by omega) (by omega)).mp hc383_1
      refine o_ldc2 (pc' := 389) (v := 31) (own_word hw 20 rfl) d4_386 rfl ?_
      refine o_blk (pc' := 394) (st' := [(.int (Int32.ofNat (s0 + n))), (.ref a), (.long ((31 : Int64) * (own_p bs s0 n)))]) (ls' := #[.val (.ref a), .val (.int (Int32.ofNat s0)), .val (.int (Int32.ofNat e0)), .val (.long (own_p bs s0 n)), .second, .val (.int (Int32.ofNat (s0 + n)))]) b4_389_394 rfl ?_
      refine o_bald (i := (s0 + n)) (v := (.int (bs.getD (s0 + n) 0))) (pc' := 395) F rfl (own_get (by rw [hl]; omega)) d4_394 rfl ?_
      refine o_blk (pc' := 402) (st' := []) (ls' := #[.val (.ref a), .val (.int (Int32.ofNat s0)), .val (.int (Int32.ofNat e0)), .val (.long (((31 : Int64) * (own_p bs s0 n)) + ((bs.getD (s0 + n) 0) &&& (255 : Int32)).toInt64)), .second, .val (.int (Int32.ofNat (s0 + n)))]) b4_395_402 rfl ?_
      refine o_blk (pc' := 405) (st' := []) (ls' := #[.val (.ref a), .val (.int (Int32.ofNat s0)), .val (.int (Int32.ofNat e0)), .val (.long (((31 : Int64) * (own_p bs s0 n)) + ((bs.getD (s0 + n) 0) &&& (255 : Int32)).toInt64)), .second, .val (.int ((Int32.ofNat (s0 + n)) + (1 : Int32)))]) b4_402_405 rfl ?_
      have q0 := (own_ltn (i := s0 + n) (j := e0) (by omega) (by omega)).mp hc383_1
      rw [show (Int32.ofNat (s0 + n) + (1 : Int32)) = Int32.ofNat (s0 + (n + 1)) from own_addn (s0 + n) 1]
      exact J16 (n + 1) (by omega) (by omega)
  have J14 : ∀ n : Nat, n ≤ e0 - s0 → (n = e0 - s0 ∨ n = 14) → OG pG l eG ({ frames := 0, cells := 0, slots := 0, locals := 0 } : Room) sG mG #[(.ref a), (.int (Int32.ofNat s0)), (.int (Int32.ofNat e0))] bG meG cG Z (⟨"com/example/plain_pool/plainpool/format/TopicDocidsHashPinLaw", "poly", "([BII)J"⟩ : MethodName).cls (⟨"com/example/plain_pool/plainpool/format/TopicDocidsHashPinLaw", "poly", "([BII)J"⟩ : MethodName).name method_3_code 6 (some .long) (fun v h => v = some (.long (own_p bs s0 (e0 - s0))) ∧ h0 = h) ({ frames := 0, cells := 0, slots := 0, locals := 0 } : Room).cells ({ frames := 0, cells := 0, slots := 0, locals := 0 } : Room).slots h0 0 0 (mkF mG 355 #[.val (.ref a), .val (.int (Int32.ofNat s0)), .val (.int (Int32.ofNat e0)), .val (.long (own_p bs s0 n)), .second, .val (.int (Int32.ofNat (s0 + n)))] []) := by
    intro n hn hk
    refine o_blk (pc' := 358) (st' := [(.int (Int32.ofNat e0)), (.int (Int32.ofNat (s0 + n)))]) (ls' := #[.val (.ref a), .val (.int (Int32.ofNat s0)), .val (.int (Int32.ofNat e0)), .val (.long (own_p bs s0 n)), .second, .val (.int (Int32.ofNat (s0 + n)))]) b4_355_358 rfl ?_
    refine o_ic (pc' := 380) (pc'' := 361) d4_358 (by decide) (by decide) rfl (fun (hc358_2 : ¬ (Int32.ofNat (s0 + n)) < (Int32.ofNat e0)) => ?_) (fun (hc358_2 : (Int32.ofNat (s0 + n)) < (Int32.ofNat e0)) => ?_)
    ·
      exact J15 n hn (Or.inl (Nat.le_antisymm hn (Nat.le_of_not_lt fun q => hc358_2 ((own_ltn (by omega) (by omega)).mpr (by omega)))))
    ·
      have q1 := (own_ltn (i := s0 + n) (j := e0) (by omega) (by omega)).mp hc358_2
      refine o_ldc2 (pc' := 364) (v := 31) (own_word hw 20 rfl) d4_361 rfl ?_
      refine o_blk (pc' := 369) (st' := [(.int (Int32.ofNat (s0 + n))), (.ref a), (.long ((31 : Int64) * (own_p bs s0 n)))]) (ls' := #[.val (.ref a), .val (.int (Int32.ofNat s0)), .val (.int (Int32.ofNat e0)), .val (.long (own_p bs s0 n)), .second, .val (.int (Int32.ofNat (s0 + n)))]) b4_364_369 rfl ?_
      refine o_bald (i := (s0 + n)) (v := (.int (bs.getD (s0 + n) 0))) (pc' := 370) F rfl (own_get (by rw [hl]; omega)) d4_369 rfl ?_
      refine o_blk (pc' := 377) (st' := []) (ls' := #[.val (.ref a), .val (.int (Int32.ofNat s0)), .val (.int (Int32.ofNat e0)), .val (.long (((31 : Int64) * (own_p bs s0 n)) + ((bs.getD (s0 + n) 0) &&& (255 : Int32)).toInt64)), .second, .val (.int (Int32.ofNat (s0 + n)))]) b4_370_377 rfl ?_
      refine o_blk (pc' := 380) (st' := []) (ls' := #[.val (.ref a), .val (.int (Int32.ofNat s0)), .val (.int (Int32.ofNat e0)), .val (.long (((31 : Int64) * (own_p bs s0 n)) + ((bs.getD (s0 + n) 0) &&& (255 : Int32)).toInt64)), .second, .val (.int ((Int32.ofNat (s0 + n)) + (1 : Int32)))]) b4_377_380 rfl ?_
      have q0 := (own_ltn (i := s0 + n) (j := e0) (by omega) (by omega)).mp hc358_2
      rw [show (Int32.ofNat (s0 + n) + (1 : Int32)) = Int32.ofNat (s0 + (n + 1)) from own_addn (s0 + n) 1]
      exact J15 (n + 1) (by omega) (by omega)
  have J13 : ∀ n : Nat, n ≤ e0 - s0 → (n = e0 - s0 ∨ n = 13) → OG pG l eG ({ frames := 0, cells := 0, slots := 0, locals := 0 } : Room) sG mG #[(.ref a), (.int (Int32.ofNat s0)), (.int (Int32.ofNat e0))] bG meG cG Z (⟨"com/example/plain_pool/plainpool/format/TopicDocidsHashPinLaw", "poly", "([BII)J"⟩ : MethodName).cls (⟨"com/example/plain_pool/plainpool/format/TopicDocidsHashPinLaw", "poly", "([BII)J"⟩ : MethodName).name method_3_code 6 (some .long) (fun v h => v = some (.long (own_p bs s0 (e0 - s0))) ∧ h0 = h) ({ frames := 0, cells := 0, slots := 0, locals := 0 } : Room).cells ({ frames := 0, cells := 0, slots := 0, locals := 0 } : Room).slots h0 0 0 (mkF mG 330 #[.val (.ref a), .val (.int (Int32.ofNat s0)), .val (.int (Int32.ofNat e0)), .val (.long (own_p bs s0 n)), .second, .val (.int (Int32.ofNat (s0 + n)))] []) := by
    intro n hn hk
    refine o_blk (pc' := 333) (st' := [(.int (Int32.ofNat e0)), (.int (Int32.ofNat (s0 + n)))]) (ls' := #[.val (.ref a), .val (.int (Int32.ofNat s0)), .val (.int (Int32.ofNat e0)), .val (.long (own_p bs s0 n)), .second, .val (.int (Int32.ofNat (s0 + n)))]) b4_330_333 rfl ?_
    refine o_ic (pc' := 355) (pc'' := 336) d4_333 (by decide) (by decide) rfl (fun (hc333_3 : ¬ (Int32.ofNat (s0 + n)) < (Int32.ofNat e0)) => ?_) (fun (hc333_3 : (Int32.ofNat (s0 + n)) < (Int32.ofNat e0)) => ?_)
    ·
      exact J14 n hn (Or.inl (Nat.le_antisymm hn (Nat.le_of_not_lt fun q => hc333_3 ((own_ltn (by omega) (by omega)).mpr (by omega)))))
    ·
      have q1 := (own_ltn (i := s0 + n) (j := e0) (by omega) (by omega)).mp hc333_3
      refine o_ldc2 (pc' := 339) (v := 31) (own_word hw 20 rfl) d4_336 rfl ?_
      refine o_blk (pc' := 344) (st' := [(.int (Int32.ofNat (s0 + n))), (.ref a), (.long ((31 : Int64) * (own_p bs s0 n)))]) (ls' := #[.val (.ref a), .val (.int (Int32.ofNat s0)), .val (.int (Int32.ofNat e0)), .val (.long (own_p bs s0 n)), .second, .val (.int (Int32.ofNat (s0 + n)))]) b4_339_344 rfl ?_
      refine o_bald (i := (s0 + n)) (v := (.int (bs.getD (s0 + n) 0))) (pc' := 345) F rfl (own_get (by rw [hl]; omega)) d4_344 rfl ?_
      refine o_blk (pc' := 352) (st' := []) (ls' := #[.val (.ref a), .val (.int (Int32.ofNat s0)), .val (.int (Int32.ofNat e0)), .val (.long (((31 : Int64) * (own_p bs s0 n)) + ((bs.getD (s0 + n) 0) &&& (255 : Int32)).toInt64)), .second, .val (.int (Int32.ofNat (s0 + n)))]) b4_345_352 rfl ?_
      refine o_blk (pc' := 355) (st' := []) (ls' := #[.val (.ref a), .val (.int (Int32.ofNat s0)), .val (.int (Int32.ofNat e0)), .val (.long (((31 : Int64) * (own_p bs s0 n)) + ((bs.getD (s0 + n) 0) &&& (255 : Int32)).toInt64)), .second, .val (.int ((Int32.ofNat (s0 + n)) + (1 : Int32)))]) b4_352_355 rfl ?_
      have q0 := (own_ltn (i := s0 + n) (j := e0) (by omega) (by omega)).mp hc333_3
      rw [show (Int32.ofNat (s0 + n) + (1 : Int32)) = Int32.ofNat (s0 + (n + 1)) from own_addn (s0 + n) 1]
      exact J14 (n + 1) (by omega) (by omega)
  have J12 : ∀ n : Nat, n ≤ e0 - s0 → (n = e0 - s0 ∨ n = 12) → OG pG l eG ({ frames := 0, cells := 0, slots := 0, locals := 0 } : Room) sG mG #[(.ref a), (.int (Int32.ofNat s0)), (.int (Int32.ofNat e0))] bG meG cG Z (⟨"com/example/plain_pool/plainpool/format/TopicDocidsHashPinLaw", "poly", "([BII)J"⟩ : MethodName).cls (⟨"com/example/plain_pool/plainpool/format/TopicDocidsHashPinLaw", "poly", "([BII)J"⟩ : MethodName).name method_3_code 6 (some .long) (fun v h => v = some (.long (own_p bs s0 (e0 - s0))) ∧ h0 = h) ({ frames := 0, cells := 0, slots := 0, locals := 0 } : Room).cells ({ frames := 0, cells := 0, slots := 0, locals := 0 } : Room).slots h0 0 0 (mkF mG 305 #[.val (.ref a), .val (.int (Int32.ofNat s0)), .val (.int (Int32.ofNat e0)), .val (.long (own_p bs s0 n)), .second, .val (.int (Int32.ofNat (s0 + n)))] []) := by
    intro n hn hk
    refine o_blk (pc' := 308) (st' := [(.int (Int32.ofNat e0)), (.int (Int32.ofNat (s0 + n)))]) (ls' := #[.val (.ref a), .val (.int (Int32.ofNat s0)), .val (.int (Int32.ofNat e0)), .val (.long (own_p bs s0 n)), .second, .val (.int (Int32.ofNat (s0 + n)))]) b4_305_308 rfl ?_
    refine o_ic (pc' := 330) (pc'' := 311) d4_308 (by decide) (by decide) rfl (fun (hc308_4 : ¬ (Int32.ofNat (s0 + n)) < (Int32.ofNat e0)) => ?_) (fun (hc308_4 : (Int32.ofNat (s0 + n)) < (Int32.ofNat e0)) => ?_)
    ·
      exact J13 n hn (Or.inl (Nat.le_antisymm hn (Nat.le_of_not_lt fun q => hc308_4 ((own_ltn (by omega) (by omega)).mpr (by omega)))))
    ·
      have q1 := (own_ltn (i := s0 + n) (j := e0) (by omega) (by omega)).mp hc308_4
      refine o_ldc2 (pc' := 314) (v := 31) (own_word hw 20 rfl) d4_311 rfl ?_
      refine o_blk (pc' := 319) (st' := [(.int (Int32.ofNat (s0 + n))), (.ref a), (.long ((31 : Int64) * (own_p bs s0 n)))]) (ls' := #[.val (.ref a), .val (.int (Int32.ofNat s0)), .val (.int (Int32.ofNat e0)), .val (.long (own_p bs s0 n)), .second, .val (.int (Int32.ofNat (s0 + n)))]) b4_314_319 rfl ?_
      refine o_bald (i := (s0 + n)) (v := (.int (bs.getD (s0 + n) 0))) (pc' := 320) F rfl (own_get (by rw [hl]; omega)) d4_319 rfl ?_
      refine o_blk (pc' := 327) (st' := []) (ls' := #[.val (.ref a), .val (.int (Int32.ofNat s0)), .val (.int (Int32.ofNat e0)), .val (.long (((31 : Int64) * (own_p bs s0 n)) + ((bs.getD (s0 + n) 0) &&& (255 : Int32)).toInt64)), .second, .val (.int (Int32.ofNat (s0 + n)))]) b4_320_327 rfl ?_
      refine o_blk (pc' := 330) (st' := []) (ls' := #[.val (.ref a), .val (.int (Int32.ofNat s0)), .val (.int (Int32.ofNat e0)), .val (.long (((31 : Int64) * (own_p bs s0 n)) + ((bs.getD (s0 + n) 0) &&& (255 : Int32)).toInt64)), .second, .val (.int ((Int32.ofNat (s0 + n)) + (1 : Int32)))]) b4_327_330 rfl ?_
      have q0 := (own_ltn (i := s0 + n) (j := e0) (by omega) (by omega)).mp hc308_4
      rw [show (Int32.ofNat (s0 + n) + (1 : Int32)) = Int32.ofNat (s0 + (n + 1)) from own_addn (s0 + n) 1]
      exact J13 (n + 1) (by omega) (by omega)
  have J11 : ∀ n : Nat, n ≤ e0 - s0 → (n = e0 - s0 ∨ n = 11) → OG pG l eG ({ frames := 0, cells := 0, slots := 0, locals := 0 } : Room) sG mG #[(.ref a), (.int (Int32.ofNat s0)), (.int (Int32.ofNat e0))] bG meG cG Z (⟨"com/example/plain_pool/plainpool/format/TopicDocidsHashPinLaw", "poly", "([BII)J"⟩ : MethodName).cls (⟨"com/example/plain_pool/plainpool/format/TopicDocidsHashPinLaw", "poly", "([BII)J"⟩ : MethodName).name method_3_code 6 (some .long) (fun v h => v = some (.long (own_p bs s0 (e0 - s0))) ∧ h0 = h) ({ frames := 0, cells := 0, slots := 0, locals := 0 } : Room).cells ({ frames := 0, cells := 0, slots := 0, locals := 0 } : Room).slots h0 0 0 (mkF mG 280 #[.val (.ref a), .val (.int (Int32.ofNat s0)), .val (.int (Int32.ofNat e0)), .val (.long (own_p bs s0 n)), .second, .val (.int (Int32.ofNat (s0 + n)))] []) := by
    intro n hn hk
    refine o_blk (pc' := 283) (st' := [(.int (Int32.ofNat e0)), (.int (Int32.ofNat (s0 + n)))]) (ls' := #[.val (.ref a), .val (.int (Int32.ofNat s0)), .val (.int (Int32.ofNat e0)), .val (.long (own_p bs s0 n)), .second, .val (.int (Int32.ofNat (s0 + n)))]) b4_280_283 rfl ?_
    refine o_ic (pc' := 305) (pc'' := 286) d4_283 (by decide) (by decide) rfl (fun (hc283_5 : ¬ (Int32.ofNat (s0 + n)) < (Int32.ofNat e0)) => ?_) (fun (hc283_5 : (Int32.ofNat (s0 + n)) < (Int32.ofNat e0)) => ?_)
    ·
      exact J12 n hn (Or.inl (Nat.le_antisymm hn (Nat.le_of_not_lt fun q => hc283_5 ((own_ltn (by omega) (by omega)).mpr (by omega)))))
    ·
      have q1 := (own_ltn (i := s0 + n) (j := e0) (by omega) (by omega)).mp hc283_5
      refine o_ldc2 (pc' := 289) (v := 31) (own_word hw 20 rfl) d4_286 rfl ?_
      refine o_blk (pc' := 294) (st' := [(.int (Int32.ofNat (s0 + n))), (.ref a), (.long ((31 : Int64) * (own_p bs s0 n)))]) (ls' := #[.val (.ref a), .val (.int (Int32.ofNat s0)), .val (.int (Int32.ofNat e0)), .val (.long (own_p bs s0 n)), .second, .val (.int (Int32.ofNat (s0 + n)))]) b4_289_294 rfl ?_
      refine o_bald (i := (s0 + n)) (v := (.int (bs.getD (s0 + n) 0))) (pc' := 295) F rfl (own_get (by rw [hl]; omega)) d4_294 rfl ?_
      refine o_blk (pc' := 302) (st' := []) (ls' := #[.val (.ref a), .val (.int (Int32.ofNat s0)), .val (.int (Int32.ofNat e0)), .val (.long (((31 : Int64) * (own_p bs s0 n)) + ((bs.getD (s0 + n) 0) &&& (255 : Int32)).toInt64)), .second, .val (.int (Int32.ofNat (s0 + n)))]) b4_295_302 rfl ?_
      refine o_blk (pc' := 305) (st' := []) (ls' := #[.val (.ref a), .val (.int (Int32.ofNat s0)), .val (.int (Int32.ofNat e0)), .val (.long (((31 : Int64) * (own_p bs s0 n)) + ((bs.getD (s0 + n) 0) &&& (255 : Int32)).toInt64)), .second, .val (.int ((Int32.ofNat (s0 + n)) + (1 : Int32)))]) b4_302_305 rfl ?_
      have q0 := (own_ltn (i := s0 + n) (j := e0) (by omega) (by omega)).mp hc283_5
      rw [show (Int32.ofNat (s0 + n) + (1 : Int32)) = Int32.ofNat (s0 + (n + 1)) from own_addn (s0 + n) 1]
      exact J12 (n + 1) (by omega) (by omega)
  have J10 : ∀ n : Nat, n ≤ e0 - s0 → (n = e0 - s0 ∨ n = 10) → OG pG l eG ({ frames := 0, cells := 0, slots := 0, locals := 0 } : Room) sG mG #[(.ref a), (.int (Int32.ofNat s0)), (.int (Int32.ofNat e0))] bG meG cG Z (⟨"com/example/plain_pool/plainpool/format/TopicDocidsHashPinLaw", "poly", "([BII)J"⟩ : MethodName).cls (⟨"com/example/plain_pool/plainpool/format/TopicDocidsHashPinLaw", "poly", "([BII)J"⟩ : MethodName).name method_3_code 6 (some .long) (fun v h => v = some (.long (own_p bs s0 (e0 - s0))) ∧ h0 = h) ({ frames := 0, cells := 0, slots := 0, locals := 0 } : Room).cells ({ frames := 0, cells := 0, slots := 0, locals := 0 } : Room).slots h0 0 0 (mkF mG 255 #[.val (.ref a), .val (.int (Int32.ofNat s0)), .val (.int (Int32.ofNat e0)), .val (.long (own_p bs s0 n)), .second, .val (.int (Int32.ofNat (s0 + n)))] []) := by
    intro n hn hk
    refine o_blk (pc' := 258) (st' := [(.int (Int32.ofNat e0)), (.int (Int32.ofNat (s0 + n)))]) (ls' := #[.val (.ref a), .val (.int (Int32.ofNat s0)), .val (.int (Int32.ofNat e0)), .val (.long (own_p bs s0 n)), .second, .val (.int (Int32.ofNat (s0 + n)))]) b4_255_258 rfl ?_
    refine o_ic (pc' := 280) (pc'' := 261) d4_258 (by decide) (by decide) rfl (fun (hc258_6 : ¬ (Int32.ofNat (s0 + n)) < (Int32.ofNat e0)) => ?_) (fun (hc258_6 : (Int32.ofNat (s0 + n)) < (Int32.ofNat e0)) => ?_)
    ·
      exact J11 n hn (Or.inl (Nat.le_antisymm hn (Nat.le_of_not_lt fun q => hc258_6 ((own_ltn (by omega) (by omega)).mpr (by omega)))))
    ·
      have q1 := (own_ltn (i := s0 + n) (j := e0) (by omega) (by omega)).mp hc258_6
      refine o_ldc2 (pc' := 264) (v := 31) (own_word hw 20 rfl) d4_261 rfl ?_
      refine o_blk (pc' := 269) (st' := [(.int (Int32.ofNat (s0 + n))), (.ref a), (.long ((31 : Int64) * (own_p bs s0 n)))]) (ls' := #[.val (.ref a), .val (.int (Int32.ofNat s0)), .val (.int (Int32.ofNat e0)), .val (.long (own_p bs s0 n)), .second, .val (.int (Int32.ofNat (s0 + n)))]) b4_264_269 rfl ?_
      refine o_bald (i := (s0 + n)) (v := (.int (bs.getD (s0 + n) 0))) (pc' := 270) F rfl (own_get (by rw [hl]; omega)) d4_269 rfl ?_
      refine o_blk (pc' := 277) (st' := []) (ls' := #[.val (.ref a), .val (.int (Int32.ofNat s0)), .val (.int (Int32.ofNat e0)), .val (.long (((31 : Int64) * (own_p bs s0 n)) + ((bs.getD (s0 + n) 0) &&& (255 : Int32)).toInt64)), .second, .val (.int (Int32.ofNat (s0 + n)))]) b4_270_277 rfl ?_
      refine o_blk (pc' := 280) (st' := []) (ls' := #[.val (.ref a), .val (.int (Int32.ofNat s0)), .val (.int (Int32.ofNat e0)), .val (.long (((31 : Int64) * (own_p bs s0 n)) + ((bs.getD (s0 + n) 0) &&& (255 : Int32)).toInt64)), .second, .val (.int ((Int32.ofNat (s0 + n)) + (1 : Int32)))]) b4_277_280 rfl ?_
      have q0 := (own_ltn (i := s0 + n) (j := e0) (by omega) (by omega)).mp hc258_6
      rw [show (Int32.ofNat (s0 + n) + (1 : Int32)) = Int32.ofNat (s0 + (n + 1)) from own_addn (s0 + n) 1]
      exact J11 (n + 1) (by omega) (by omega)
  have J9 : ∀ n : Nat, n ≤ e0 - s0 → (n = e0 - s0 ∨ n = 9) → OG pG l eG ({ frames := 0, cells := 0, slots := 0, locals := 0 } : Room) sG mG #[(.ref a), (.int (Int32.ofNat s0)), (.int (Int32.ofNat e0))] bG meG cG Z (⟨"com/example/plain_pool/plainpool/format/TopicDocidsHashPinLaw", "poly", "([BII)J"⟩ : MethodName).cls (⟨"com/example/plain_pool/plainpool/format/TopicDocidsHashPinLaw", "poly", "([BII)J"⟩ : MethodName).name method_3_code 6 (some .long) (fun v h => v = some (.long (own_p bs s0 (e0 - s0))) ∧ h0 = h) ({ frames := 0, cells := 0, slots := 0, locals := 0 } : Room).cells ({ frames := 0, cells := 0, slots := 0, locals := 0 } : Room).slots h0 0 0 (mkF mG 230 #[.val (.ref a), .val (.int (Int32.ofNat s0)), .val (.int (Int32.ofNat e0)), .val (.long (own_p bs s0 n)), .second, .val (.int (Int32.ofNat (s0 + n)))] []) := by
    intro n hn hk
    refine o_blk (pc' := 233) (st' := [(.int (Int32.ofNat e0)), (.int (Int32.ofNat (s0 + n)))]) (ls' := #[.val (.ref a), .val (.int (Int32.ofNat s0)), .val (.int (Int32.ofNat e0)), .val (.long (own_p bs s0 n)), .second, .val (.int (Int32.ofNat (s0 + n)))]) b4_230_233 rfl ?_
    refine o_ic (pc' := 255) (pc'' := 236) d4_233 (by decide) (by decide) rfl (fun (hc233_7 : ¬ (Int32.ofNat (s0 + n)) < (Int32.ofNat e0)) => ?_) (fun (hc233_7 : (Int32.ofNat (s0 + n)) < (Int32.ofNat e0)) => ?_)
    ·
      exact J10 n hn (Or.inl (Nat.le_antisymm hn (Nat.le_of_not_lt fun q => hc233_7 ((own_ltn (by omega) (by omega)).mpr (by omega)))))
    ·
      have q1 := (own_ltn (i := s0 + n) (j := e0) (by omega) (by omega)).mp hc233_7
      refine o_ldc2 (pc' := 239) (v := 31) (own_word hw 20 rfl) d4_236 rfl ?_
      refine o_blk (pc' := 244) (st' := [(.int (Int32.ofNat (s0 + n))), (.ref a), (.long ((31 : Int64) * (own_p bs s0 n)))]) (ls' := #[.val (.ref a), .val (.int (Int32.ofNat s0)), .val (.int (Int32.ofNat e0)), .val (.long (own_p bs s0 n)), .second, .val (.int (Int32.ofNat (s0 + n)))]) b4_239_244 rfl ?_
      refine o_bald (i := (s0 + n)) (v := (.int (bs.getD (s0 + n) 0))) (pc' := 245) F rfl (own_get (by rw [hl]; omega)) d4_244 rfl ?_
      refine o_blk (pc' := 252) (st' := []) (ls' := #[.val (.ref a), .val (.int (Int32.ofNat s0)), .val (.int (Int32.ofNat e0)), .val (.long (((31 : Int64) * (own_p bs s0 n)) + ((bs.getD (s0 + n) 0) &&& (255 : Int32)).toInt64)), .second, .val (.int (Int32.ofNat (s0 + n)))]) b4_245_252 rfl ?_
      refine o_blk (pc' := 255) (st' := []) (ls' := #[.val (.ref a), .val (.int (Int32.ofNat s0)), .val (.int (Int32.ofNat e0)), .val (.long (((31 : Int64) * (own_p bs s0 n)) + ((bs.getD (s0 + n) 0) &&& (255 : Int32)).toInt64)), .second, .val (.int ((Int32.ofNat (s0 + n)) + (1 : Int32)))]) b4_252_255 rfl ?_
      have q0 := (own_ltn (i := s0 + n) (j := e0) (by omega) (by omega)).mp hc233_7
      rw [show (Int32.ofNat (s0 + n) + (1 : Int32)) = Int32.ofNat (s0 + (n + 1)) from own_addn (s0 + n) 1]
      exact J10 (n + 1) (by omega) (by omega)
  have J8 : ∀ n : Nat, n ≤ e0 - s0 → (n = e0 - s0 ∨ n = 8) → OG pG l eG ({ frames := 0, cells := 0, slots := 0, locals := 0 } : Room) sG mG #[(.ref a), (.int (Int32.ofNat s0)), (.int (Int32.ofNat e0))] bG meG cG Z (⟨"com/example/plain_pool/plainpool/format/TopicDocidsHashPinLaw", "poly", "([BII)J"⟩ : MethodName).cls (⟨"com/example/plain_pool/plainpool/format/TopicDocidsHashPinLaw", "poly", "([BII)J"⟩ : MethodName).name method_3_code 6 (some .long) (fun v h => v = some (.long (own_p bs s0 (e0 - s0))) ∧ h0 = h) ({ frames := 0, cells := 0, slots := 0, locals := 0 } : Room).cells ({ frames := 0, cells := 0, slots := 0, locals := 0 } : Room).slots h0 0 0 (mkF mG 205 #[.val (.ref a), .val (.int (Int32.ofNat s0)), .val (.int (Int32.ofNat e0)), .val (.long (own_p bs s0 n)), .second, .val (.int (Int32.ofNat (s0 + n)))] []) := by
    intro n hn hk
    refine o_blk (pc' := 208) (st' := [(.int (Int32.ofNat e0)), (.int (Int32.ofNat (s0 + n)))]) (ls' := #[.val (.ref a), .val (.int (Int32.ofNat s0)), .val (.int (Int32.ofNat e0)), .val (.long (own_p bs s0 n)), .second, .val (.int (Int32.ofNat (s0 + n)))]) b4_205_208 rfl ?_
    refine o_ic (pc' := 230) (pc'' := 211) d4_208 (by decide) (by decide) rfl (fun (hc208_8 : ¬ (Int32.ofNat (s0 + n)) < (Int32.ofNat e0)) => ?_) (fun (hc208_8 : (Int32.ofNat (s0 + n)) < (Int32.ofNat e0)) => ?_)
    ·
      exact J9 n hn (Or.inl (Nat.le_antisymm hn (Nat.le_of_not_lt fun q => hc208_8 ((own_ltn (by omega) (by omega)).mpr (by omega)))))
    ·
      have q1 := (own_ltn (i := s0 + n) (j := e0) (by omega) (by omega)).mp hc208_8
      refine o_ldc2 (pc' := 214) (v := 31) (own_word hw 20 rfl) d4_211 rfl ?_
      refine o_blk (pc' := 219) (st' := [(.int (Int32.ofNat (s0 + n))), (.ref a), (.long ((31 : Int64) * (own_p bs s0 n)))]) (ls' := #[.val (.ref a), .val (.int (Int32.ofNat s0)), .val (.int (Int32.ofNat e0)), .val (.long (own_p bs s0 n)), .second, .val (.int (Int32.ofNat (s0 + n)))]) b4_214_219 rfl ?_
      refine o_bald (i := (s0 + n)) (v := (.int (bs.getD (s0 + n) 0))) (pc' := 220) F rfl (own_get (by rw [hl]; omega)) d4_219 rfl ?_
      refine o_blk (pc' := 227) (st' := []) (ls' := #[.val (.ref a), .val (.int (Int32.ofNat s0)), .val (.int (Int32.ofNat e0)), .val (.long (((31 : Int64) * (own_p bs s0 n)) + ((bs.getD (s0 + n) 0) &&& (255 : Int32)).toInt64)), .second, .val (.int (Int32.ofNat (s0 + n)))]) b4_220_227 rfl ?_
      refine o_blk (pc' := 230) (st' := []) (ls' := #[.val (.ref a), .val (.int (Int32.ofNat s0)), .val (.int (Int32.ofNat e0)), .val (.long (((31 : Int64) * (own_p bs s0 n)) + ((bs.getD (s0 + n) 0) &&& (255 : Int32)).toInt64)), .second, .val (.int ((Int32.ofNat (s0 + n)) + (1 : Int32)))]) b4_227_230 rfl ?_
      have q0 := (own_ltn (i := s0 + n) (j := e0) (by omega) (by omega)).mp hc208_8
      rw [show (Int32.ofNat (s0 + n) + (1 : Int32)) = Int32.ofNat (s0 + (n + 1)) from own_addn (s0 + n) 1]
      exact J9 (n + 1) (by omega) (by omega)
  have J7 : ∀ n : Nat, n ≤ e0 - s0 → (n = e0 - s0 ∨ n = 7) → OG pG l eG ({ frames := 0, cells := 0, slots := 0, locals := 0 } : Room) sG mG #[(.ref a), (.int (Int32.ofNat s0)), (.int (Int32.ofNat e0))] bG meG cG Z (⟨"com/example/plain_pool/plainpool/format/TopicDocidsHashPinLaw", "poly", "([BII)J"⟩ : MethodName).cls (⟨"com/example/plain_pool/plainpool/format/TopicDocidsHashPinLaw", "poly", "([BII)J"⟩ : MethodName).name method_3_code 6 (some .long) (fun v h => v = some (.long (own_p bs s0 (e0 - s0))) ∧ h0 = h) ({ frames := 0, cells := 0, slots := 0, locals := 0 } : Room).cells ({ frames := 0, cells := 0, slots := 0, locals := 0 } : Room).slots h0 0 0 (mkF mG 180 #[.val (.ref a), .val (.int (Int32.ofNat s0)), .val (.int (Int32.ofNat e0)), .val (.long (own_p bs s0 n)), .second, .val (.int (Int32.ofNat (s0 + n)))] []) := by
    intro n hn hk
    refine o_blk (pc' := 183) (st' := [(.int (Int32.ofNat e0)), (.int (Int32.ofNat (s0 + n)))]) (ls' := #[.val (.ref a), .val (.int (Int32.ofNat s0)), .val (.int (Int32.ofNat e0)), .val (.long (own_p bs s0 n)), .second, .val (.int (Int32.ofNat (s0 + n)))]) b4_180_183 rfl ?_
    refine o_ic (pc' := 205) (pc'' := 186) d4_183 (by decide) (by decide) rfl (fun (hc183_9 : ¬ (Int32.ofNat (s0 + n)) < (Int32.ofNat e0)) => ?_) (fun (hc183_9 : (Int32.ofNat (s0 + n)) < (Int32.ofNat e0)) => ?_)
    ·
      exact J8 n hn (Or.inl (Nat.le_antisymm hn (Nat.le_of_not_lt fun q => hc183_9 ((own_ltn (by omega) (by omega)).mpr (by omega)))))
    ·
      have q1 := (own_ltn (i := s0 + n) (j := e0) (by omega) (by omega)).mp hc183_9
      refine o_ldc2 (pc' := 189) (v := 31) (own_word hw 20 rfl) d4_186 rfl ?_
      refine o_blk (pc' := 194) (st' := [(.int (Int32.ofNat (s0 + n))), (.ref a), (.long ((31 : Int64) * (own_p bs s0 n)))]) (ls' := #[.val (.ref a), .val (.int (Int32.ofNat s0)), .val (.int (Int32.ofNat e0)), .val (.long (own_p bs s0 n)), .second, .val (.int (Int32.ofNat (s0 + n)))]) b4_189_194 rfl ?_
      refine o_bald (i := (s0 + n)) (v := (.int (bs.getD (s0 + n) 0))) (pc' := 195) F rfl (own_get (by rw [hl]; omega)) d4_194 rfl ?_
      refine o_blk (pc' := 202) (st' := []) (ls' := #[.val (.ref a), .val (.int (Int32.ofNat s0)), .val (.int (Int32.ofNat e0)), .val (.long (((31 : Int64) * (own_p bs s0 n)) + ((bs.getD (s0 + n) 0) &&& (255 : Int32)).toInt64)), .second, .val (.int (Int32.ofNat (s0 + n)))]) b4_195_202 rfl ?_
      refine o_blk (pc' := 205) (st' := []) (ls' := #[.val (.ref a), .val (.int (Int32.ofNat s0)), .val (.int (Int32.ofNat e0)), .val (.long (((31 : Int64) * (own_p bs s0 n)) + ((bs.getD (s0 + n) 0) &&& (255 : Int32)).toInt64)), .second, .val (.int ((Int32.ofNat (s0 + n)) + (1 : Int32)))]) b4_202_205 rfl ?_
      have q0 := (own_ltn (i := s0 + n) (j := e0) (by omega) (by omega)).mp hc183_9
      rw [show (Int32.ofNat (s0 + n) + (1 : Int32)) = Int32.ofNat (s0 + (n + 1)) from own_addn (s0 + n) 1]
      exact J8 (n + 1) (by omega) (by omega)
  have J6 : ∀ n : Nat, n ≤ e0 - s0 → (n = e0 - s0 ∨ n = 6) → OG pG l eG ({ frames := 0, cells := 0, slots := 0, locals := 0 } : Room) sG mG #[(.ref a), (.int (Int32.ofNat s0)), (.int (Int32.ofNat e0))] bG meG cG Z (⟨"com/example/plain_pool/plainpool/format/TopicDocidsHashPinLaw", "poly", "([BII)J"⟩ : MethodName).cls (⟨"com/example/plain_pool/plainpool/format/TopicDocidsHashPinLaw", "poly", "([BII)J"⟩ : MethodName).name method_3_code 6 (some .long) (fun v h => v = some (.long (own_p bs s0 (e0 - s0))) ∧ h0 = h) ({ frames := 0, cells := 0, slots := 0, locals := 0 } : Room).cells ({ frames := 0, cells := 0, slots := 0, locals := 0 } : Room).slots h0 0 0 (mkF mG 155 #[.val (.ref a), .val (.int (Int32.ofNat s0)), .val (.int (Int32.ofNat e0)), .val (.long (own_p bs s0 n)), .second, .val (.int (Int32.ofNat (s0 + n)))] []) := by
    intro n hn hk
    refine o_blk (pc' := 158) (st' := [(.int (Int32.ofNat e0)), (.int (Int32.ofNat (s0 + n)))]) (ls' := #[.val (.ref a), .val (.int (Int32.ofNat s0)), .val (.int (Int32.ofNat e0)), .val (.long (own_p bs s0 n)), .second, .val (.int (Int32.ofNat (s0 + n)))]) b4_155_158 rfl ?_
    refine o_ic (pc' := 180) (pc'' := 161) d4_158 (by decide) (by decide) rfl (fun (hc158_10 : ¬ (Int32.ofNat (s0 + n)) < (Int32.ofNat e0)) => ?_) (fun (hc158_10 : (Int32.ofNat (s0 + n)) < (Int32.ofNat e0)) => ?_)
    ·
      exact J7 n hn (Or.inl (Nat.le_antisymm hn (Nat.le_of_not_lt fun q => hc158_10 ((own_ltn (by omega) (by omega)).mpr (by omega)))))
    ·
      have q1 := (own_ltn (i := s0 + n) (j := e0) (by omega) (by omega)).mp hc158_10
      refine o_ldc2 (pc' := 164) (v := 31) (own_word hw 20 rfl) d4_161 rfl ?_
      refine o_blk (pc' := 169) (st' := [(.int (Int32.ofNat (s0 + n))), (.ref a), (.long ((31 : Int64) * (own_p bs s0 n)))]) (ls' := #[.val (.ref a), .val (.int (Int32.ofNat s0)), .val (.int (Int32.ofNat e0)), .val (.long (own_p bs s0 n)), .second, .val (.int (Int32.ofNat (s0 + n)))]) b4_164_169 rfl ?_
      refine o_bald (i := (s0 + n)) (v := (.int (bs.getD (s0 + n) 0))) (pc' := 170) F rfl (own_get (by rw [hl]; omega)) d4_169 rfl ?_
      refine o_blk (pc' := 177) (st' := []) (ls' := #[.val (.ref a), .val (.int (Int32.ofNat s0)), .val (.int (Int32.ofNat e0)), .val (.long (((31 : Int64) * (own_p bs s0 n)) + ((bs.getD (s0 + n) 0) &&& (255 : Int32)).toInt64)), .second, .val (.int (Int32.ofNat (s0 + n)))]) b4_170_177 rfl ?_
      refine o_blk (pc' := 180) (st' := []) (ls' := #[.val (.ref a), .val (.int (Int32.ofNat s0)), .val (.int (Int32.ofNat e0)), .val (.long (((31 : Int64) * (own_p bs s0 n)) + ((bs.getD (s0 + n) 0) &&& (255 : Int32)).toInt64)), .second, .val (.int ((Int32.ofNat (s0 + n)) + (1 : Int32)))]) b4_177_180 rfl ?_
      have q0 := (own_ltn (i := s0 + n) (j := e0) (by omega) (by omega)).mp hc158_10
      rw [show (Int32.ofNat (s0 + n) + (1 : Int32)) = Int32.ofNat (s0 + (n + 1)) from own_addn (s0 + n) 1]
      exact J7 (n + 1) (by omega) (by omega)
  have J5 : ∀ n : Nat, n ≤ e0 - s0 → (n = e0 - s0 ∨ n = 5) → OG pG l eG ({ frames := 0, cells := 0, slots := 0, locals := 0 } : Room) sG mG #[(.ref a), (.int (Int32.ofNat s0)), (.int (Int32.ofNat e0))] bG meG cG Z (⟨"com/example/plain_pool/plainpool/format/TopicDocidsHashPinLaw", "poly", "([BII)J"⟩ : MethodName).cls (⟨"com/example/plain_pool/plainpool/format/TopicDocidsHashPinLaw", "poly", "([BII)J"⟩ : MethodName).name method_3_code 6 (some .long) (fun v h => v = some (.long (own_p bs s0 (e0 - s0))) ∧ h0 = h) ({ frames := 0, cells := 0, slots := 0, locals := 0 } : Room).cells ({ frames := 0, cells := 0, slots := 0, locals := 0 } : Room).slots h0 0 0 (mkF mG 130 #[.val (.ref a), .val (.int (Int32.ofNat s0)), .val (.int (Int32.ofNat e0)), .val (.long (own_p bs s0 n)), .second, .val (.int (Int32.ofNat (s0 + n)))] []) := by
    intro n hn hk
    refine o_blk (pc' := 133) (st' := [(.int (Int32.ofNat e0)), (.int (Int32.ofNat (s0 + n)))]) (ls' := #[.val (.ref a), .val (.int (Int32.ofNat s0)), .val (.int (Int32.ofNat e0)), .val (.long (own_p bs s0 n)), .second, .val (.int (Int32.ofNat (s0 + n)))]) b4_130_133 rfl ?_
    refine o_ic (pc' := 155) (pc'' := 136) d4_133 (by decide) (by decide) rfl (fun (hc133_11 : ¬ (Int32.ofNat (s0 + n)) < (Int32.ofNat e0)) => ?_) (fun (hc133_11 : (Int32.ofNat (s0 + n)) < (Int32.ofNat e0)) => ?_)
    ·
      exact J6 n hn (Or.inl (Nat.le_antisymm hn (Nat.le_of_not_lt fun q => hc133_11 ((own_ltn (by omega) (by omega)).mpr (by omega)))))
    ·
      have q1 := (own_ltn (i := s0 + n) (j := e0) (by omega) (by omega)).mp hc133_11
      refine o_ldc2 (pc' := 139) (v := 31) (own_word hw 20 rfl) d4_136 rfl ?_
      refine o_blk (pc' := 144) (st' := [(.int (Int32.ofNat (s0 + n))), (.ref a), (.long ((31 : Int64) * (own_p bs s0 n)))]) (ls' := #[.val (.ref a), .val (.int (Int32.ofNat s0)), .val (.int (Int32.ofNat e0)), .val (.long (own_p bs s0 n)), .second, .val (.int (Int32.ofNat (s0 + n)))]) b4_139_144 rfl ?_
      refine o_bald (i := (s0 + n)) (v := (.int (bs.getD (s0 + n) 0))) (pc' := 145) F rfl (own_get (by rw [hl]; omega)) d4_144 rfl ?_
      refine o_blk (pc' := 152) (st' := []) (ls' := #[.val (.ref a), .val (.int (Int32.ofNat s0)), .val (.int (Int32.ofNat e0)), .val (.long (((31 : Int64) * (own_p bs s0 n)) + ((bs.getD (s0 + n) 0) &&& (255 : Int32)).toInt64)), .second, .val (.int (Int32.ofNat (s0 + n)))]) b4_145_152 rfl ?_
      refine o_blk (pc' := 155) (st' := []) (ls' := #[.val (.ref a), .val (.int (Int32.ofNat s0)), .val (.int (Int32.ofNat e0)), .val (.long (((31 : Int64) * (own_p bs s0 n)) + ((bs.getD (s0 + n) 0) &&& (255 : Int32)).toInt64)), .second, .val (.int ((Int32.ofNat (s0 + n)) + (1 : Int32)))]) b4_152_155 rfl ?_
      have q0 := (own_ltn (i := s0 + n) (j := e0) (by omega) (by omega)).mp hc133_11
      rw [show (Int32.ofNat (s0 + n) + (1 : Int32)) = Int32.ofNat (s0 + (n + 1)) from own_addn (s0 + n) 1]
      exact J6 (n + 1) (by omega) (by omega)
  have J4 : ∀ n : Nat, n ≤ e0 - s0 → (n = e0 - s0 ∨ n = 4) → OG pG l eG ({ frames := 0, cells := 0, slots := 0, locals := 0 } : Room) sG mG #[(.ref a), (.int (Int32.ofNat s0)), (.int (Int32.ofNat e0))] bG meG cG Z (⟨"com/example/plain_pool/plainpool/format/TopicDocidsHashPinLaw", "poly", "([BII)J"⟩ : MethodName).cls (⟨"com/example/plain_pool/plainpool/format/TopicDocidsHashPinLaw", "poly", "([BII)J"⟩ : MethodName).name method_3_code 6 (some .long) (fun v h => v = some (.long (own_p bs s0 (e0 - s0))) ∧ h0 = h) ({ frames := 0, cells := 0, slots := 0, locals := 0 } : Room).cells ({ frames := 0, cells := 0, slots := 0, locals := 0 } : Room).slots h0 0 0 (mkF mG 105 #[.val (.ref a), .val (.int (Int32.ofNat s0)), .val (.int (Int32.ofNat e0)), .val (.long (own_p bs s0 n)), .second, .val (.int (Int32.ofNat (s0 + n)))] []) := by
    intro n hn hk
    refine o_blk (pc' := 108) (st' := [(.int (Int32.ofNat e0)), (.int (Int32.ofNat (s0 + n)))]) (ls' := #[.val (.ref a), .val (.int (Int32.ofNat s0)), .val (.int (Int32.ofNat e0)), .val (.long (own_p bs s0 n)), .second, .val (.int (Int32.ofNat (s0 + n)))]) b4_105_108 rfl ?_
    refine o_ic (pc' := 130) (pc'' := 111) d4_108 (by decide) (by decide) rfl (fun (hc108_12 : ¬ (Int32.ofNat (s0 + n)) < (Int32.ofNat e0)) => ?_) (fun (hc108_12 : (Int32.ofNat (s0 + n)) < (Int32.ofNat e0)) => ?_)
    ·
      exact J5 n hn (Or.inl (Nat.le_antisymm hn (Nat.le_of_not_lt fun q => hc108_12 ((own_ltn (by omega) (by omega)).mpr (by omega)))))
    ·
      have q1 := (own_ltn (i := s0 + n) (j := e0) (by omega) (by omega)).mp hc108_12
      refine o_ldc2 (pc' := 114) (v := 31) (own_word hw 20 rfl) d4_111 rfl ?_
      refine o_blk (pc' := 119) (st' := [(.int (Int32.ofNat (s0 + n))), (.ref a), (.long ((31 : Int64) * (own_p bs s0 n)))]) (ls' := #[.val (.ref a), .val (.int (Int32.ofNat s0)), .val (.int (Int32.ofNat e0)), .val (.long (own_p bs s0 n)), .second, .val (.int (Int32.ofNat (s0 + n)))]) b4_114_119 rfl ?_
      refine o_bald (i := (s0 + n)) (v := (.int (bs.getD (s0 + n) 0))) (pc' := 120) F rfl (own_get (by rw [hl]; omega)) d4_119 rfl ?_
      refine o_blk (pc' := 127) (st' := []) (ls' := #[.val (.ref a), .val (.int (Int32.ofNat s0)), .val (.int (Int32.ofNat e0)), .val (.long (((31 : Int64) * (own_p bs s0 n)) + ((bs.getD (s0 + n) 0) &&& (255 : Int32)).toInt64)), .second, .val (.int (Int32.ofNat (s0 + n)))]) b4_120_127 rfl ?_
      refine o_blk (pc' := 130) (st' := []) (ls' := #[.val (.ref a), .val (.int (Int32.ofNat s0)), .val (.int (Int32.ofNat e0)), .val (.long (((31 : Int64) * (own_p bs s0 n)) + ((bs.getD (s0 + n) 0) &&& (255 : Int32)).toInt64)), .second, .val (.int ((Int32.ofNat (s0 + n)) + (1 : Int32)))]) b4_127_130 rfl ?_
      have q0 := (own_ltn (i := s0 + n) (j := e0) (by omega) (by omega)).mp hc108_12
      rw [show (Int32.ofNat (s0 + n) + (1 : Int32)) = Int32.ofNat (s0 + (n + 1)) from own_addn (s0 + n) 1]
      exact J5 (n + 1) (by omega) (by omega)
  have J3 : ∀ n : Nat, n ≤ e0 - s0 → (n = e0 - s0 ∨ n = 3) → OG pG l eG ({ frames := 0, cells := 0, slots := 0, locals := 0 } : Room) sG mG #[(.ref a), (.int (Int32.ofNat s0)), (.int (Int32.ofNat e0))] bG meG cG Z (⟨"com/example/plain_pool/plainpool/format/TopicDocidsHashPinLaw", "poly", "([BII)J"⟩ : MethodName).cls (⟨"com/example/plain_pool/plainpool/format/TopicDocidsHashPinLaw", "poly", "([BII)J"⟩ : MethodName).name method_3_code 6 (some .long) (fun v h => v = some (.long (own_p bs s0 (e0 - s0))) ∧ h0 = h) ({ frames := 0, cells := 0, slots := 0, locals := 0 } : Room).cells ({ frames := 0, cells := 0, slots := 0, locals := 0 } : Room).slots h0 0 0 (mkF mG 80 #[.val (.ref a), .val (.int (Int32.ofNat s0)), .val (.int (Int32.ofNat e0)), .val (.long (own_p bs s0 n)), .second, .val (.int (Int32.ofNat (s0 + n)))] []) := by
    intro n hn hk
    refine o_blk (pc' := 83) (st' := [(.int (Int32.ofNat e0)), (.int (Int32.ofNat (s0 + n)))]) (ls' := #[.val (.ref a), .val (.int (Int32.ofNat s0)), .val (.int (Int32.ofNat e0)), .val (.long (own_p bs s0 n)), .second, .val (.int (Int32.ofNat (s0 + n)))]) b4_80_83 rfl ?_
    refine o_ic (pc' := 105) (pc'' := 86) d4_83 (by decide) (by decide) rfl (fun (hc83_13 : ¬ (Int32.ofNat (s0 + n)) < (Int32.ofNat e0)) => ?_) (fun (hc83_13 : (Int32.ofNat (s0 + n)) < (Int32.ofNat e0)) => ?_)
    ·
      exact J4 n hn (Or.inl (Nat.le_antisymm hn (Nat.le_of_not_lt fun q => hc83_13 ((own_ltn (by omega) (by omega)).mpr (by omega)))))
    ·
      have q1 := (own_ltn (i := s0 + n) (j := e0) (by omega) (by omega)).mp hc83_13
      refine o_ldc2 (pc' := 89) (v := 31) (own_word hw 20 rfl) d4_86 rfl ?_
      refine o_blk (pc' := 94) (st' := [(.int (Int32.ofNat (s0 + n))), (.ref a), (.long ((31 : Int64) * (own_p bs s0 n)))]) (ls' := #[.val (.ref a), .val (.int (Int32.ofNat s0)), .val (.int (Int32.ofNat e0)), .val (.long (own_p bs s0 n)), .second, .val (.int (Int32.ofNat (s0 + n)))]) b4_89_94 rfl ?_
      refine o_bald (i := (s0 + n)) (v := (.int (bs.getD (s0 + n) 0))) (pc' := 95) F rfl (own_get (by rw [hl]; omega)) d4_94 rfl ?_
      refine o_blk (pc' := 102) (st' := []) (ls' := #[.val (.ref a), .val (.int (Int32.ofNat s0)), .val (.int (Int32.ofNat e0)), .val (.long (((31 : Int64) * (own_p bs s0 n)) + ((bs.getD (s0 + n) 0) &&& (255 : Int32)).toInt64)), .second, .val (.int (Int32.ofNat (s0 + n)))]) b4_95_102 rfl ?_
      refine o_blk (pc' := 105) (st' := []) (ls' := #[.val (.ref a), .val (.int (Int32.ofNat s0)), .val (.int (Int32.ofNat e0)), .val (.long (((31 : Int64) * (own_p bs s0 n)) + ((bs.getD (s0 + n) 0) &&& (255 : Int32)).toInt64)), .second, .val (.int ((Int32.ofNat (s0 + n)) + (1 : Int32)))]) b4_102_105 rfl ?_
      have q0 := (own_ltn (i := s0 + n) (j := e0) (by omega) (by omega)).mp hc83_13
      rw [show (Int32.ofNat (s0 + n) + (1 : Int32)) = Int32.ofNat (s0 + (n + 1)) from own_addn (s0 + n) 1]
      exact J4 (n + 1) (by omega) (by omega)
  have J2 : ∀ n : Nat, n ≤ e0 - s0 → (n = e0 - s0 ∨ n = 2) → OG pG l eG ({ frames := 0, cells := 0, slots := 0, locals := 0 } : Room) sG mG #[(.ref a), (.int (Int32.ofNat s0)), (.int (Int32.ofNat e0))] bG meG cG Z (⟨"com/example/plain_pool/plainpool/format/TopicDocidsHashPinLaw", "poly", "([BII)J"⟩ : MethodName).cls (⟨"com/example/plain_pool/plainpool/format/TopicDocidsHashPinLaw", "poly", "([BII)J"⟩ : MethodName).name method_3_code 6 (some .long) (fun v h => v = some (.long (own_p bs s0 (e0 - s0))) ∧ h0 = h) ({ frames := 0, cells := 0, slots := 0, locals := 0 } : Room).cells ({ frames := 0, cells := 0, slots := 0, locals := 0 } : Room).slots h0 0 0 (mkF mG 55 #[.val (.ref a), .val (.int (Int32.ofNat s0)), .val (.int (Int32.ofNat e0)), .val (.long (own_p bs s0 n)), .second, .val (.int (Int32.ofNat (s0 + n)))] []) := by
    intro n hn hk
    refine o_blk (pc' := 58) (st' := [(.int (Int32.ofNat e0)), (.int (Int32.ofNat (s0 + n)))]) (ls' := #[.val (.ref a), .val (.int (Int32.ofNat s0)), .val (.int (Int32.ofNat e0)), .val (.long (own_p bs s0 n)), .second, .val (.int (Int32.ofNat (s0 + n)))]) b4_55_58 rfl ?_
    refine o_ic (pc' := 80) (pc'' := 61) d4_58 (by decide) (by decide) rfl (fun (hc58_14 : ¬ (Int32.ofNat (s0 + n)) < (Int32.ofNat e0)) => ?_) (fun (hc58_14 : (Int32.ofNat (s0 + n)) < (Int32.ofNat e0)) => ?_)
    ·
      exact J3 n hn (Or.inl (Nat.le_antisymm hn (Nat.le_of_not_lt fun q => hc58_14 ((own_ltn (by omega) (by omega)).mpr (by omega)))))
    ·
      have q1 := (own_ltn (i := s0 + n) (j := e0) (by omega) (by omega)).mp hc58_14
      refine o_ldc2 (pc' := 64) (v := 31) (own_word hw 20 rfl) d4_61 rfl ?_
      refine o_blk (pc' := 69) (st' := [(.int (Int32.ofNat (s0 + n))), (.ref a), (.long ((31 : Int64) * (own_p bs s0 n)))]) (ls' := #[.val (.ref a), .val (.int (Int32.ofNat s0)), .val (.int (Int32.ofNat e0)), .val (.long (own_p bs s0 n)), .second, .val (.int (Int32.ofNat (s0 + n)))]) b4_64_69 rfl ?_
      refine o_bald (i := (s0 + n)) (v := (.int (bs.getD (s0 + n) 0))) (pc' := 70) F rfl (own_get (by rw [hl]; omega)) d4_69 rfl ?_
      refine o_blk (pc' := 77) (st' := []) (ls' := #[.val (.ref a), .val (.int (Int32.ofNat s0)), .val (.int (Int32.ofNat e0)), .val (.long (((31 : Int64) * (own_p bs s0 n)) + ((bs.getD (s0 + n) 0) &&& (255 : Int32)).toInt64)), .second, .val (.int (Int32.ofNat (s0 + n)))]) b4_70_77 rfl ?_
      refine o_blk (pc' := 80) (st' := []) (ls' := #[.val (.ref a), .val (.int (Int32.ofNat s0)), .val (.int (Int32.ofNat e0)), .val (.long (((31 : Int64) * (own_p bs s0 n)) + ((bs.getD (s0 + n) 0) &&& (255 : Int32)).toInt64)), .second, .val (.int ((Int32.ofNat (s0 + n)) + (1 : Int32)))]) b4_77_80 rfl ?_
      have q0 := (own_ltn (i := s0 + n) (j := e0) (by omega) (by omega)).mp hc58_14
      rw [show (Int32.ofNat (s0 + n) + (1 : Int32)) = Int32.ofNat (s0 + (n + 1)) from own_addn (s0 + n) 1]
      exact J3 (n + 1) (by omega) (by omega)
  have J1 : ∀ n : Nat, n ≤ e0 - s0 → (n = e0 - s0 ∨ n = 1) → OG pG l eG ({ frames := 0, cells := 0, slots := 0, locals := 0 } : Room) sG mG #[(.ref a), (.int (Int32.ofNat s0)), (.int (Int32.ofNat e0))] bG meG cG Z (⟨"com/example/plain_pool/plainpool/format/TopicDocidsHashPinLaw", "poly", "([BII)J"⟩ : MethodName).cls (⟨"com/example/plain_pool/plainpool/format/TopicDocidsHashPinLaw", "poly", "([BII)J"⟩ : MethodName).name method_3_code 6 (some .long) (fun v h => v = some (.long (own_p bs s0 (e0 - s0))) ∧ h0 = h) ({ frames := 0, cells := 0, slots := 0, locals := 0 } : Room).cells ({ frames := 0, cells := 0, slots := 0, locals := 0 } : Room).slots h0 0 0 (mkF mG 30 #[.val (.ref a), .val (.int (Int32.ofNat s0)), .val (.int (Int32.ofNat e0)), .val (.long (own_p bs s0 n)), .second, .val (.int (Int32.ofNat (s0 + n)))] []) := by
    intro n hn hk
    refine o_blk (pc' := 33) (st' := [(.int (Int32.ofNat e0)), (.int (Int32.ofNat (s0 + n)))]) (ls' := #[.val (.ref a), .val (.int (Int32.ofNat s0)), .val (.int (Int32.ofNat e0)), .val (.long (own_p bs s0 n)), .second, .val (.int (Int32.ofNat (s0 + n)))]) b4_30_33 rfl ?_
    refine o_ic (pc' := 55) (pc'' := 36) d4_33 (by decide) (by decide) rfl (fun (hc33_15 : ¬ (Int32.ofNat (s0 + n)) < (Int32.ofNat e0)) => ?_) (fun (hc33_15 : (Int32.ofNat (s0 + n)) < (Int32.ofNat e0)) => ?_)
    ·
      exact J2 n hn (Or.inl (Nat.le_antisymm hn (Nat.le_of_not_lt fun q => hc33_15 ((own_ltn (by omega) (by omega)).mpr (by omega)))))
    ·
      have q1 := (own_ltn (i := s0 + n) (j := e0) (by omega) (by omega)).mp hc33_15
      refine o_ldc2 (pc' := 39) (v := 31) (own_word hw 20 rfl) d4_36 rfl ?_
      refine o_blk (pc' := 44) (st' := [(.int (Int32.ofNat (s0 + n))), (.ref a), (.long ((31 : Int64) * (own_p bs s0 n)))]) (ls' := #[.val (.ref a), .val (.int (Int32.ofNat s0)), .val (.int (Int32.ofNat e0)), .val (.long (own_p bs s0 n)), .second, .val (.int (Int32.ofNat (s0 + n)))]) b4_39_44 rfl ?_
      refine o_bald (i := (s0 + n)) (v := (.int (bs.getD (s0 + n) 0))) (pc' := 45) F rfl (own_get (by rw [hl]; omega)) d4_44 rfl ?_
      refine o_blk (pc' := 52) (st' := []) (ls' := #[.val (.ref a), .val (.int (Int32.ofNat s0)), .val (.int (Int32.ofNat e0)), .val (.long (((31 : Int64) * (own_p bs s0 n)) + ((bs.getD (s0 + n) 0) &&& (255 : Int32)).toInt64)), .second, .val (.int (Int32.ofNat (s0 + n)))]) b4_45_52 rfl ?_
      refine o_blk (pc' := 55) (st' := []) (ls' := #[.val (.ref a), .val (.int (Int32.ofNat s0)), .val (.int (Int32.ofNat e0)), .val (.long (((31 : Int64) * (own_p bs s0 n)) + ((bs.getD (s0 + n) 0) &&& (255 : Int32)).toInt64)), .second, .val (.int ((Int32.ofNat (s0 + n)) + (1 : Int32)))]) b4_52_55 rfl ?_
      have q0 := (own_ltn (i := s0 + n) (j := e0) (by omega) (by omega)).mp hc33_15
      rw [show (Int32.ofNat (s0 + n) + (1 : Int32)) = Int32.ofNat (s0 + (n + 1)) from own_addn (s0 + n) 1]
      exact J2 (n + 1) (by omega) (by omega)
  have J0 : ∀ n : Nat, n ≤ e0 - s0 → (n = e0 - s0 ∨ n = 0) → OG pG l eG ({ frames := 0, cells := 0, slots := 0, locals := 0 } : Room) sG mG #[(.ref a), (.int (Int32.ofNat s0)), (.int (Int32.ofNat e0))] bG meG cG Z (⟨"com/example/plain_pool/plainpool/format/TopicDocidsHashPinLaw", "poly", "([BII)J"⟩ : MethodName).cls (⟨"com/example/plain_pool/plainpool/format/TopicDocidsHashPinLaw", "poly", "([BII)J"⟩ : MethodName).name method_3_code 6 (some .long) (fun v h => v = some (.long (own_p bs s0 (e0 - s0))) ∧ h0 = h) ({ frames := 0, cells := 0, slots := 0, locals := 0 } : Room).cells ({ frames := 0, cells := 0, slots := 0, locals := 0 } : Room).slots h0 0 0 (mkF mG 5 #[.val (.ref a), .val (.int (Int32.ofNat s0)), .val (.int (Int32.ofNat e0)), .val (.long (own_p bs s0 n)), .second, .val (.int (Int32.ofNat (s0 + n)))] []) := by
    intro n hn hk
    refine o_blk (pc' := 8) (st' := [(.int (Int32.ofNat e0)), (.int (Int32.ofNat (s0 + n)))]) (ls' := #[.val (.ref a), .val (.int (Int32.ofNat s0)), .val (.int (Int32.ofNat e0)), .val (.long (own_p bs s0 n)), .second, .val (.int (Int32.ofNat (s0 + n)))]) b4_5_8 rfl ?_
    refine o_ic (pc' := 30) (pc'' := 11) d4_8 (by decide) (by decide) rfl (fun (hc8_16 : ¬ (Int32.ofNat (s0 + n)) < (Int32.ofNat e0)) => ?_) (fun (hc8_16 : (Int32.ofNat (s0 + n)) < (Int32.ofNat e0)) => ?_)
    ·
      exact J1 n hn (Or.inl (Nat.le_antisymm hn (Nat.le_of_not_lt fun q => hc8_16 ((own_ltn (by omega) (by omega)).mpr (by omega)))))
    ·
      have q1 := (own_ltn (i := s0 + n) (j := e0) (by omega) (by omega)).mp hc8_16
      refine o_ldc2 (pc' := 14) (v := 31) (own_word hw 20 rfl) d4_11 rfl ?_
      refine o_blk (pc' := 19) (st' := [(.int (Int32.ofNat (s0 + n))), (.ref a), (.long ((31 : Int64) * (own_p bs s0 n)))]) (ls' := #[.val (.ref a), .val (.int (Int32.ofNat s0)), .val (.int (Int32.ofNat e0)), .val (.long (own_p bs s0 n)), .second, .val (.int (Int32.ofNat (s0 + n)))]) b4_14_19 rfl ?_
      refine o_bald (i := (s0 + n)) (v := (.int (bs.getD (s0 + n) 0))) (pc' := 20) F rfl (own_get (by rw [hl]; omega)) d4_19 rfl ?_
      refine o_blk (pc' := 27) (st' := []) (ls' := #[.val (.ref a), .val (.int (Int32.ofNat s0)), .val (.int (Int32.ofNat e0)), .val (.long (((31 : Int64) * (own_p bs s0 n)) + ((bs.getD (s0 + n) 0) &&& (255 : Int32)).toInt64)), .second, .val (.int (Int32.ofNat (s0 + n)))]) b4_20_27 rfl ?_
      refine o_blk (pc' := 30) (st' := []) (ls' := #[.val (.ref a), .val (.int (Int32.ofNat s0)), .val (.int (Int32.ofNat e0)), .val (.long (((31 : Int64) * (own_p bs s0 n)) + ((bs.getD (s0 + n) 0) &&& (255 : Int32)).toInt64)), .second, .val (.int ((Int32.ofNat (s0 + n)) + (1 : Int32)))]) b4_27_30 rfl ?_
      have q0 := (own_ltn (i := s0 + n) (j := e0) (by omega) (by omega)).mp hc8_16
      rw [show (Int32.ofNat (s0 + n) + (1 : Int32)) = Int32.ofNat (s0 + (n + 1)) from own_addn (s0 + n) 1]
      exact J1 (n + 1) (by omega) (by omega)
  exact J0 0 (by omega) (Or.inr rfl)
set_option maxRecDepth 65536 in
set_option maxHeartbeats 40000000 in
theorem rm_law (l : Launch) (Z : State) (a0 : Array Value) (hw : ∀ d ∈ tables_1, d.before a0 Z = true) (q1 q2 : Int64) (p3 p4 p5 : Int32) (h0 : Heap) (hE0 : Ext Z.heap h0)  :
    OCtr l Z x code maxLocals ret room_1 #[(.long q1), (.long q2), (.int p3), (.int p4), (.int p5)] h0 (fun v h => v = some (.int 1)) := by
  refine o_body (ls0 := #[.val (.long q1), .second, .val (.long q2), .second, .val (.int p3), .val (.int p4), .val (.int p5), .unset, .unset, .unset, .unset, .unset, .unset, .unset, .unset, .unset, .unset, .unset, .unset, .unset, .unset, .unset, .unset, .unset, .unset, .unset, .unset, .unset, .unset]) (plainFor_of_name pn_0) hE0 (fun m => by first | (simp [entryFrame, mkF, argsToLocals, Value.category, maxLocals]; done) | rfl) ?_
  intro pG eG sG mG bG meG cG
  refine o_blk (pc' := 2) (st' := [(.long q2), (.long q1)]) (ls' := #[.val (.long q1), .second, .val (.long q2), .second, .val (.int p3), .val (.int p4), .val (.int p5), .unset, .unset, .unset, .unset, .unset, .unset, .unset, .unset, .unset, .unset, .unset, .unset, .unset, .unset, .unset, .unset, .unset, .unset, .unset, .unset, .unset, .unset]) b0_0_2 rfl ?_
  refine o_callS (W := 0) (argsL := [(.long q1), (.long q2)]) (rest := []) (pc' := 5) (own_word hw 0 rfl) (own_word hw 1 rfl) (own_word hw 2 rfl) (own_word hw 3 rfl) (by decide) (fun hE => rm_bytes l Z a0 hw q1 q2 h0 hE) d0_2 pd_0 rfl rfl rfl (Nat.le_of_eq rfl) (by decide) (by decide) (by decide) (by decide) rfl ?_
  rintro _ h1 ⟨ba, bk, bs, rfl, nab, gqb, hlb, Fb, Kqb⟩ hs2
  refine o_blk (pc' := 7) (st' := []) (ls' := #[.val (.long q1), .second, .val (.long q2), .second, .val (.int p3), .val (.int p4), .val (.int p5), .val (.ref ba), .unset, .unset, .unset, .unset, .unset, .unset, .unset, .unset, .unset, .unset, .unset, .unset, .unset, .unset, .unset, .unset, .unset, .unset, .unset, .unset, .unset]) b0_5_7 rfl ?_
  refine o_blk (pc' := 9) (st' := [(.long q2), (.long q1)]) (ls' := #[.val (.long q1), .second, .val (.long q2), .second, .val (.int p3), .val (.int p4), .val (.int p5), .val (.ref ba), .unset, .unset, .unset, .unset, .unset, .unset, .unset, .unset, .unset, .unset, .unset, .unset, .unset, .unset, .unset, .unset, .unset, .unset, .unset, .unset, .unset]) b0_7_9 rfl ?_
  refine o_callS (W := 0) (argsL := [(.long q1), (.long q2)]) (rest := []) (pc' := 12) (own_word hw 0 rfl) (own_word hw 1 rfl) (own_word hw 2 rfl) (own_word hw 3 rfl) (by decide) (fun hE => rm_bytes l Z a0 hw q1 q2 h1 hE) d0_9 pd_0 rfl rfl rfl (Nat.le_of_eq rfl) (by decide) (by decide) (by decide) (by decide) rfl ?_
  rintro _ h3 ⟨ca, ck, cs, rfl, nac, gqc, hlc, Fc, Kqc⟩ hs4
  have F5 := Fb.keep Kqc nin0
  have ne_ba_ca : ba ≠ ca := Nat.ne_of_lt (Nat.lt_of_lt_of_le Fb.lt gqc)
  refine o_blk (pc' := 14) (st' := []) (ls' := #[.val (.long q1), .second, .val (.long q2), .second, .val (.int p3), .val (.int p4), .val (.int p5), .val (.ref ba), .val (.ref ca), .unset, .unset, .unset, .unset, .unset, .unset, .unset, .unset, .unset, .unset, .unset, .unset, .unset, .unset, .unset, .unset, .unset, .unset, .unset, .unset]) b0_12_14 rfl ?_
  refine o_blk (pc' := 16) (st' := [(.int p5)]) (ls' := #[.val (.long q1), .second, .val (.long q2), .second, .val (.int p3), .val (.int p4), .val (.int p5), .val (.ref ba), .val (.ref ca), .unset, .unset, .unset, .unset, .unset, .unset, .unset, .unset, .unset, .unset, .unset, .unset, .unset, .unset, .unset, .unset, .unset, .unset, .unset, .unset]) b0_14_16 rfl ?_
  refine o_ldc (pc' := 18) (v := 2147483647) (own_word hw 5 rfl) d0_16 rfl ?_
  refine o_blk (pc' := 21) (st' := [(.int (15 : Int32)), (.int (p5 &&& (2147483647 : Int32)))]) (ls' := #[.val (.long q1), .second, .val (.long q2), .second, .val (.int p3), .val (.int p4), .val (.int p5), .val (.ref ba), .val (.ref ca), .unset, .unset, .unset, .unset, .unset, .unset, .unset, .unset, .unset, .unset, .unset, .unset, .unset, .unset, .unset, .unset, .unset, .unset, .unset, .unset]) b0_18_21 rfl ?_
  refine o_irem (pc' := 22) d0_21 (by decide) rfl ?_
  obtain ⟨j, hj, hje⟩ := own_mod p5 (n := 15) (k := 15) rfl (by decide) (by decide)
  rw [hje]
  refine o_blk (pc' := 24) (st' := []) (ls' := #[.val (.long q1), .second, .val (.long q2), .second, .val (.int p3), .val (.int p4), .val (.int p5), .val (.ref ba), .val (.ref ca), .val (.int (Int32.ofNat j)), .unset, .unset, .unset, .unset, .unset, .unset, .unset, .unset, .unset, .unset, .unset, .unset, .unset, .unset, .unset, .unset, .unset, .unset, .unset]) b0_22_24 rfl ?_
  refine o_blk (pc' := 34) (st' := []) (ls' := #[.val (.long q1), .second, .val (.long q2), .second, .val (.int p3), .val (.int p4), .val (.int p5), .val (.ref ba), .val (.ref ca), .val (.int (Int32.ofNat j)), .val (.int ((XT.ushr p5 (8 : Int32)) &&& (7 : Int32))), .unset, .unset, .unset, .unset, .unset, .unset, .unset, .unset, .unset, .unset, .unset, .unset, .unset, .unset, .unset, .unset, .unset, .unset]) b0_24_34 rfl ?_
  refine o_blk (pc' := 42) (st' := [(.int (Int32.ofNat j)), (.ref ca), (.int (Int32.ofNat j)), (.ref ca)]) (ls' := #[.val (.long q1), .second, .val (.long q2), .second, .val (.int p3), .val (.int p4), .val (.int p5), .val (.ref ba), .val (.ref ca), .val (.int (Int32.ofNat j)), .val (.int ((XT.ushr p5 (8 : Int32)) &&& (7 : Int32))), .unset, .unset, .unset, .unset, .unset, .unset, .unset, .unset, .unset, .unset, .unset, .unset, .unset, .unset, .unset, .unset, .unset, .unset]) b0_34_42 rfl ?_
  refine o_bald (i := j) (v := (.int (cs.getD j 0))) (pc' := 43) Fc rfl (own_get (by rw [hlc]; omega)) d0_42 rfl ?_
  refine o_blk (pc' := 47) (st' := [(.int ((cs.getD j 0) + ((XT.ushr p5 (8 : Int32)) &&& (7 : Int32))).toInt8.toInt32), (.int (Int32.ofNat j)), (.ref ca)]) (ls' := #[.val (.long q1), .second, .val (.long q2), .second, .val (.int p3), .val (.int p4), .val (.int p5), .val (.ref ba), .val (.ref ca), .val (.int (Int32.ofNat j)), .val (.int ((XT.ushr p5 (8 : Int32)) &&& (7 : Int32))), .unset, .unset, .unset, .unset, .unset, .unset, .unset, .unset, .unset, .unset, .unset, .unset, .unset, .unset, .unset, .unset, .unset, .unset]) b0_43_47 rfl ?_
  refine o_bast (i := j) (pc' := 48) Fc rfl (by rw [List.length_map, hlc]; omega) nac d0_47 rfl ?_
  intro h6 W6
  have F7 := F5.other W6 ne_ba_ca
  have F8 := Fc.set W6
  obtain ⟨cs10, hlc10, Fc10⟩ : ∃ cs : List Int32, cs.length = 16 ∧ OArr Z h6 ca ck .byte (cs.map Value.int) := own_setx hlc F8
  refine o_blk (pc' := 54) (st' := [(.int ((Int32.ofNat j) + (1 : Int32))), (.ref ca)]) (ls' := #[.val (.long q1), .second, .val (.long q2), .second, .val (.int p3), .val (.int p4), .val (.int p5), .val (.ref ba), .val (.ref ca), .val (.int (Int32.ofNat j)), .val (.int ((XT.ushr p5 (8 : Int32)) &&& (7 : Int32))), .unset, .unset, .unset, .unset, .unset, .unset, .unset, .unset, .unset, .unset, .unset, .unset, .unset, .unset, .unset, .unset, .unset, .unset]) b0_48_54 rfl ?_
  rw [show Int32.ofNat j + (1 : Int32) = Int32.ofNat (j + 1) from own_addn j 1]
  refine o_blk (pc' := 60) (st' := [(.int ((Int32.ofNat j) + (1 : Int32))), (.ref ca), (.int (Int32.ofNat (j + 1))), (.ref ca)]) (ls' := #[.val (.long q1), .second, .val (.long q2), .second, .val (.int p3), .val (.int p4), .val (.int p5), .val (.ref ba), .val (.ref ca), .val (.int (Int32.ofNat j)), .val (.int ((XT.ushr p5 (8 : Int32)) &&& (7 : Int32))), .unset, .unset, .unset, .unset, .unset, .unset, .unset, .unset, .unset, .unset, .unset, .unset, .unset, .unset, .unset, .unset, .unset, .unset]) b0_54_60 rfl ?_
  rw [show Int32.ofNat j + (1 : Int32) = Int32.ofNat (j + 1) from own_addn j 1]
  refine o_bald (i := (j + 1)) (v := (.int (cs10.getD (j + 1) 0))) (pc' := 61) Fc10 rfl (own_get (by rw [hlc10]; omega)) d0_60 rfl ?_
  refine o_blk (pc' := 68) (st' := [(.int ((cs10.getD (j + 1) 0) - ((31 : Int32) * ((XT.ushr p5 (8 : Int32)) &&& (7 : Int32)))).toInt8.toInt32), (.int (Int32.ofNat (j + 1))), (.ref ca)]) (ls' := #[.val (.long q1), .second, .val (.long q2), .second, .val (.int p3), .val (.int p4), .val (.int p5), .val (.ref ba), .val (.ref ca), .val (.int (Int32.ofNat j)), .val (.int ((XT.ushr p5 (8 : Int32)) &&& (7 : Int32))), .unset, .unset, .unset, .unset, .unset, .unset, .unset, .unset, .unset, .unset, .unset, .unset, .unset, .unset, .unset, .unset, .unset, .unset]) b0_61_68 rfl ?_
  refine o_bast (i := (j + 1)) (pc' := 69) Fc10 rfl (by rw [List.length_map, hlc10]; omega) nac d0_68 rfl ?_
  intro h11 W11
  have F12 := F7.other W11 ne_ba_ca
  have F13 := Fc10.set W11
  obtain ⟨cs15, hlc15, Fc15⟩ : ∃ cs : List Int32, cs.length = 16 ∧ OArr Z h11 ca ck .byte (cs.map Value.int) := own_setx hlc10 F13
  refine o_blk (pc' := 74) (st' := [(.int (p3 &&& (15 : Int32)))]) (ls' := #[.val (.long q1), .second, .val (.long q2), .second, .val (.int p3), .val (.int p4), .val (.int p5), .val (.ref ba), .val (.ref ca), .val (.int (Int32.ofNat j)), .val (.int ((XT.ushr p5 (8 : Int32)) &&& (7 : Int32))), .unset, .unset, .unset, .unset, .unset, .unset, .unset, .unset, .unset, .unset, .unset, .unset, .unset, .unset, .unset, .unset, .unset, .unset]) b0_69_74 rfl ?_
  obtain ⟨s1, hs1s, hs1e⟩ := own_mask p3 (k := 4) (q := 15) (by decide) (by decide)
  rw [hs1e]
  refine o_blk (pc' := 76) (st' := []) (ls' := #[.val (.long q1), .second, .val (.long q2), .second, .val (.int p3), .val (.int p4), .val (.int p5), .val (.ref ba), .val (.ref ca), .val (.int (Int32.ofNat j)), .val (.int ((XT.ushr p5 (8 : Int32)) &&& (7 : Int32))), .val (.int (Int32.ofNat s1)), .unset, .unset, .unset, .unset, .unset, .unset, .unset, .unset, .unset, .unset, .unset, .unset, .unset, .unset, .unset, .unset, .unset]) b0_74_76 rfl ?_
  refine o_blk (pc' := 87) (st' := [(.int ((XT.ushr p3 (4 : Int32)) &&& (31 : Int32))), (.int (Int32.ofNat s1)), (.int (16 : Int32))]) (ls' := #[.val (.long q1), .second, .val (.long q2), .second, .val (.int p3), .val (.int p4), .val (.int p5), .val (.ref ba), .val (.ref ca), .val (.int (Int32.ofNat j)), .val (.int ((XT.ushr p5 (8 : Int32)) &&& (7 : Int32))), .val (.int (Int32.ofNat s1)), .unset, .unset, .unset, .unset, .unset, .unset, .unset, .unset, .unset, .unset, .unset, .unset, .unset, .unset, .unset, .unset, .unset]) b0_76_87 rfl ?_
  obtain ⟨t1, ht1s, ht1e⟩ := own_mask (XT.ushr p3 (4 : Int32)) (k := 5) (q := 31) (by decide) (by decide)
  rw [ht1e]
  refine o_blk (pc' := 88) (st' := [(.int ((Int32.ofNat s1) + (Int32.ofNat t1))), (.int (16 : Int32))]) (ls' := #[.val (.long q1), .second, .val (.long q2), .second, .val (.int p3), .val (.int p4), .val (.int p5), .val (.ref ba), .val (.ref ca), .val (.int (Int32.ofNat j)), .val (.int ((XT.ushr p5 (8 : Int32)) &&& (7 : Int32))), .val (.int (Int32.ofNat s1)), .unset, .unset, .unset, .unset, .unset, .unset, .unset, .unset, .unset, .unset, .unset, .unset, .unset, .unset, .unset, .unset, .unset]) b0_87_88 rfl ?_
  rw [own_addn s1 t1]
  refine o_callS (W := 0) (argsL := [(.int (16 : Int32)), (.int (Int32.ofNat (s1 + t1)))]) (rest := []) (pc' := 91) (own_word hw 6 rfl) (own_word hw 7 rfl) (own_word hw 8 rfl) (own_word hw 9 rfl) (by decide) (fun hE => rm_min l Z a0 hw (16 : Int32) (Int32.ofNat (s1 + t1)) h11 hE) d0_88 pd_1 rfl rfl rfl (Nat.le_of_eq rfl) (by decide) (by decide) (by decide) (by decide) rfl ?_
  rintro _ _ ⟨rfl, rfl⟩ hs16
  obtain ⟨e1, he1a, he1b, he1⟩ := own_min hs1s ht1s
  rw [show (if Int32.ofNat (s1 + t1) < (16 : Int32) then Int32.ofNat (s1 + t1) else (16 : Int32)) = Int32.ofNat e1 from he1]
  refine o_blk (pc' := 93) (st' := []) (ls' := #[.val (.long q1), .second, .val (.long q2), .second, .val (.int p3), .val (.int p4), .val (.int p5), .val (.ref ba), .val (.ref ca), .val (.int (Int32.ofNat j)), .val (.int ((XT.ushr p5 (8 : Int32)) &&& (7 : Int32))), .val (.int (Int32.ofNat s1)), .val (.int (Int32.ofNat e1)), .unset, .unset, .unset, .unset, .unset, .unset, .unset, .unset, .unset, .unset, .unset, .unset, .unset, .unset, .unset, .unset]) b0_91_93 rfl ?_
  refine o_blk (pc' := 98) (st' := [(.int (p4 &&& (15 : Int32)))]) (ls' := #[.val (.long q1), .second, .val (.long q2), .second, .val (.int p3), .val (.int p4), .val (.int p5), .val (.ref ba), .val (.ref ca), .val (.int (Int32.ofNat j)), .val (.int ((XT.ushr p5 (8 : Int32)) &&& (7 : Int32))), .val (.int (Int32.ofNat s1)), .val (.int (Int32.ofNat e1)), .unset, .unset, .unset, .unset, .unset, .unset, .unset, .unset, .unset, .unset, .unset, .unset, .unset, .unset, .unset, .unset]) b0_93_98 rfl ?_
  obtain ⟨s2, hs2s, hs2e⟩ := own_mask p4 (k := 4) (q := 15) (by decide) (by decide)
  rw [hs2e]
  refine o_blk (pc' := 100) (st' := []) (ls' := #[.val (.long q1), .second, .val (.long q2), .second, .val (.int p3), .val (.int p4), .val (.int p5), .val (.ref ba), .val (.ref ca), .val (.int (Int32.ofNat j)), .val (.int ((XT.ushr p5 (8 : Int32)) &&& (7 : Int32))), .val (.int (Int32.ofNat s1)), .val (.int (Int32.ofNat e1)), .val (.int (Int32.ofNat s2)), .unset, .unset, .unset, .unset, .unset, .unset, .unset, .unset, .unset, .unset, .unset, .unset, .unset, .unset, .unset]) b0_98_100 rfl ?_
  refine o_blk (pc' := 111) (st' := [(.int ((XT.ushr p4 (4 : Int32)) &&& (31 : Int32))), (.int (Int32.ofNat s2)), (.int (16 : Int32))]) (ls' := #[.val (.long q1), .second, .val (.long q2), .second, .val (.int p3), .val (.int p4), .val (.int p5), .val (.ref ba), .val (.ref ca), .val (.int (Int32.ofNat j)), .val (.int ((XT.ushr p5 (8 : Int32)) &&& (7 : Int32))), .val (.int (Int32.ofNat s1)), .val (.int (Int32.ofNat e1)), .val (.int (Int32.ofNat s2)), .unset, .unset, .unset, .unset, .unset, .unset, .unset, .unset, .unset, .unset, .unset, .unset, .unset, .unset, .unset]) b0_100_111 rfl ?_
  obtain ⟨t2, ht2s, ht2e⟩ := own_mask (XT.ushr p4 (4 : Int32)) (k := 5) (q := 31) (by decide) (by decide)
  rw [ht2e]
  refine o_blk (pc' := 112) (st' := [(.int ((Int32.ofNat s2) + (Int32.ofNat t2))), (.int (16 : Int32))]) (ls' := #[.val (.long q1), .second, .val (.long q2), .second, .val (.int p3), .val (.int p4), .val (.int p5), .val (.ref ba), .val (.ref ca), .val (.int (Int32.ofNat j)), .val (.int ((XT.ushr p5 (8 : Int32)) &&& (7 : Int32))), .val (.int (Int32.ofNat s1)), .val (.int (Int32.ofNat e1)), .val (.int (Int32.ofNat s2)), .unset, .unset, .unset, .unset, .unset, .unset, .unset, .unset, .unset, .unset, .unset, .unset, .unset, .unset, .unset]) b0_111_112 rfl ?_
  rw [own_addn s2 t2]
  refine o_callS (W := 0) (argsL := [(.int (16 : Int32)), (.int (Int32.ofNat (s2 + t2)))]) (rest := []) (pc' := 115) (own_word hw 6 rfl) (own_word hw 7 rfl) (own_word hw 8 rfl) (own_word hw 9 rfl) (by decide) (fun hE => rm_min l Z a0 hw (16 : Int32) (Int32.ofNat (s2 + t2)) h11 hE) d0_112 pd_1 rfl rfl rfl (Nat.le_of_eq rfl) (by decide) (by decide) (by decide) (by decide) rfl ?_
  rintro _ _ ⟨rfl, rfl⟩ hs17
  obtain ⟨e2, he2a, he2b, he2⟩ := own_min hs2s ht2s
  rw [show (if Int32.ofNat (s2 + t2) < (16 : Int32) then Int32.ofNat (s2 + t2) else (16 : Int32)) = Int32.ofNat e2 from he2]
  refine o_blk (pc' := 117) (st' := []) (ls' := #[.val (.long q1), .second, .val (.long q2), .second, .val (.int p3), .val (.int p4), .val (.int p5), .val (.ref ba), .val (.ref ca), .val (.int (Int32.ofNat j)), .val (.int ((XT.ushr p5 (8 : Int32)) &&& (7 : Int32))), .val (.int (Int32.ofNat s1)), .val (.int (Int32.ofNat e1)), .val (.int (Int32.ofNat s2)), .val (.int (Int32.ofNat e2)), .unset, .unset, .unset, .unset, .unset, .unset, .unset, .unset, .unset, .unset, .unset, .unset, .unset, .unset]) b0_115_117 rfl ?_
  refine o_blk (pc' := 123) (st' := [(.int (Int32.ofNat e1)), (.int (Int32.ofNat s1)), (.ref ba)]) (ls' := #[.val (.long q1), .second, .val (.long q2), .second, .val (.int p3), .val (.int p4), .val (.int p5), .val (.ref ba), .val (.ref ca), .val (.int (Int32.ofNat j)), .val (.int ((XT.ushr p5 (8 : Int32)) &&& (7 : Int32))), .val (.int (Int32.ofNat s1)), .val (.int (Int32.ofNat e1)), .val (.int (Int32.ofNat s2)), .val (.int (Int32.ofNat e2)), .unset, .unset, .unset, .unset, .unset, .unset, .unset, .unset, .unset, .unset, .unset, .unset, .unset, .unset]) b0_117_123 rfl ?_
  refine o_callS (W := 0) (argsL := [(.ref ba), (.int (Int32.ofNat s1)), (.int (Int32.ofNat e1))]) (rest := []) (pc' := 126) (own_word hw 10 rfl) (own_word hw 11 rfl) (own_word hw 12 rfl) (own_word hw 13 rfl) (by decide) (fun hE => rm_hash l Z a0 hw h11 hE ba bk bs s1 e1 he1a he1b hlb F12) d0_123 pd_2 rfl rfl rfl (Nat.le_of_eq rfl) (by decide) (by decide) (by decide) (by decide) rfl ?_
  rintro _ _ ⟨rfl, rfl⟩ hs18
  refine o_blk (pc' := 128) (st' := []) (ls' := #[.val (.long q1), .second, .val (.long q2), .second, .val (.int p3), .val (.int p4), .val (.int p5), .val (.ref ba), .val (.ref ca), .val (.int (Int32.ofNat j)), .val (.int ((XT.ushr p5 (8 : Int32)) &&& (7 : Int32))), .val (.int (Int32.ofNat s1)), .val (.int (Int32.ofNat e1)), .val (.int (Int32.ofNat s2)), .val (.int (Int32.ofNat e2)), .val (.long (own_mix (own_p bs s1 (e1 - s1)))), .second, .unset, .unset, .unset, .unset, .unset, .unset, .unset, .unset, .unset, .unset, .unset, .unset]) b0_126_128 rfl ?_
  refine o_blk (pc' := 134) (st' := [(.int (Int32.ofNat e2)), (.int (Int32.ofNat s2)), (.ref ba)]) (ls' := #[.val (.long q1), .second, .val (.long q2), .second, .val (.int p3), .val (.int p4), .val (.int p5), .val (.ref ba), .val (.ref ca), .val (.int (Int32.ofNat j)), .val (.int ((XT.ushr p5 (8 : Int32)) &&& (7 : Int32))), .val (.int (Int32.ofNat s1)), .val (.int (Int32.ofNat e1)), .val (.int (Int32.ofNat s2)), .val (.int (Int32.ofNat e2)), .val (.long (own_mix (own_p bs s1 (e1 - s1)))), .second, .unset, .unset, .unset, .unset, .unset, .unset, .unset, .unset, .unset, .unset, .unset, .unset]) b0_128_134 rfl ?_
  refine o_callS (W := 0) (argsL := [(.ref ba), (.int (Int32.ofNat s2)), (.int (Int32.ofNat e2))]) (rest := []) (pc' := 137) (own_word hw 10 rfl) (own_word hw 11 rfl) (own_word hw 12 rfl) (own_word hw 13 rfl) (by decide) (fun hE => rm_hash l Z a0 hw h11 hE ba bk bs s2 e2 he2a he2b hlb F12) d0_134 pd_2 rfl rfl rfl (Nat.le_of_eq rfl) (by decide) (by decide) (by decide) (by decide) rfl ?_
  rintro _ _ ⟨rfl, rfl⟩ hs19
  refine o_blk (pc' := 139) (st' := []) (ls' := #[.val (.long q1), .second, .val (.long q2), .second, .val (.int p3), .val (.int p4), .val (.int p5), .val (.ref ba), .val (.ref ca), .val (.int (Int32.ofNat j)), .val (.int ((XT.ushr p5 (8 : Int32)) &&& (7 : Int32))), .val (.int (Int32.ofNat s1)), .val (.int (Int32.ofNat e1)), .val (.int (Int32.ofNat s2)), .val (.int (Int32.ofNat e2)), .val (.long (own_mix (own_p bs s1 (e1 - s1)))), .second, .val (.long (own_mix (own_p bs s2 (e2 - s2)))), .second, .unset, .unset, .unset, .unset, .unset, .unset, .unset, .unset, .unset, .unset]) b0_137_139 rfl ?_
  refine o_blk (pc' := 145) (st' := [(.int (Int32.ofNat e1)), (.int (Int32.ofNat s1)), (.ref ca)]) (ls' := #[.val (.long q1), .second, .val (.long q2), .second, .val (.int p3), .val (.int p4), .val (.int p5), .val (.ref ba), .val (.ref ca), .val (.int (Int32.ofNat j)), .val (.int ((XT.ushr p5 (8 : Int32)) &&& (7 : Int32))), .val (.int (Int32.ofNat s1)), .val (.int (Int32.ofNat e1)), .val (.int (Int32.ofNat s2)), .val (.int (Int32.ofNat e2)), .val (.long (own_mix (own_p bs s1 (e1 - s1)))), .second, .val (.long (own_mix (own_p bs s2 (e2 - s2)))), .second, .unset, .unset, .unset, .unset, .unset, .unset, .unset, .unset, .unset, .unset]) b0_139_145 rfl ?_
  refine o_callS (W := 0) (argsL := [(.ref ca), (.int (Int32.ofNat s1)), (.int (Int32.ofNat e1))]) (rest := []) (pc' := 148) (own_word hw 10 rfl) (own_word hw 11 rfl) (own_word hw 12 rfl) (own_word hw 13 rfl) (by decide) (fun hE => rm_hash l Z a0 hw h11 hE ca ck cs15 s1 e1 he1a he1b hlc15 Fc15) d0_145 pd_2 rfl rfl rfl (Nat.le_of_eq rfl) (by decide) (by decide) (by decide) (by decide) rfl ?_
  rintro _ _ ⟨rfl, rfl⟩ hs20
  refine o_blk (pc' := 150) (st' := []) (ls' := #[.val (.long q1), .second, .val (.long q2), .second, .val (.int p3), .val (.int p4), .val (.int p5), .val (.ref ba), .val (.ref ca), .val (.int (Int32.ofNat j)), .val (.int ((XT.ushr p5 (8 : Int32)) &&& (7 : Int32))), .val (.int (Int32.ofNat s1)), .val (.int (Int32.ofNat e1)), .val (.int (Int32.ofNat s2)), .val (.int (Int32.ofNat e2)), .val (.long (own_mix (own_p bs s1 (e1 - s1)))), .second, .val (.long (own_mix (own_p bs s2 (e2 - s2)))), .second, .val (.long (own_mix (own_p cs15 s1 (e1 - s1)))), .second, .unset, .unset, .unset, .unset, .unset, .unset, .unset, .unset]) b0_148_150 rfl ?_
  refine o_blk (pc' := 156) (st' := [(.int (Int32.ofNat e1)), (.int (Int32.ofNat s1)), (.ref ba)]) (ls' := #[.val (.long q1), .second, .val (.long q2), .second, .val (.int p3), .val (.int p4), .val (.int p5), .val (.ref ba), .val (.ref ca), .val (.int (Int32.ofNat j)), .val (.int ((XT.ushr p5 (8 : Int32)) &&& (7 : Int32))), .val (.int (Int32.ofNat s1)), .val (.int (Int32.ofNat e1)), .val (.int (Int32.ofNat s2)), .val (.int (Int32.ofNat e2)), .val (.long (own_mix (own_p bs s1 (e1 - s1)))), .second, .val (.long (own_mix (own_p bs s2 (e2 - s2)))), .second, .val (.long (own_mix (own_p cs15 s1 (e1 - s1)))), .second, .unset, .unset, .unset, .unset, .unset, .unset, .unset, .unset]) b0_150_156 rfl ?_
  refine o_callS (W := 0) (argsL := [(.ref ba), (.int (Int32.ofNat s1)), (.int (Int32.ofNat e1))]) (rest := []) (pc' := 159) (own_word hw 16 rfl) (own_word hw 17 rfl) (own_word hw 2 rfl) (own_word hw 18 rfl) (by decide) (fun hE => rm_poly l Z a0 hw h11 hE ba bk bs s1 e1 he1a he1b hlb F12) d0_156 pd_2 rfl rfl rfl (Nat.le_of_eq rfl) (by decide) (by decide) (by decide) (by decide) rfl ?_
  rintro _ _ ⟨rfl, rfl⟩ hs21
  refine o_blk (pc' := 161) (st' := []) (ls' := #[.val (.long q1), .second, .val (.long q2), .second, .val (.int p3), .val (.int p4), .val (.int p5), .val (.ref ba), .val (.ref ca), .val (.int (Int32.ofNat j)), .val (.int ((XT.ushr p5 (8 : Int32)) &&& (7 : Int32))), .val (.int (Int32.ofNat s1)), .val (.int (Int32.ofNat e1)), .val (.int (Int32.ofNat s2)), .val (.int (Int32.ofNat e2)), .val (.long (own_mix (own_p bs s1 (e1 - s1)))), .second, .val (.long (own_mix (own_p bs s2 (e2 - s2)))), .second, .val (.long (own_mix (own_p cs15 s1 (e1 - s1)))), .second, .val (.long (own_p bs s1 (e1 - s1))), .second, .unset, .unset, .unset, .unset, .unset, .unset]) b0_159_161 rfl ?_
  refine o_blk (pc' := 167) (st' := [(.int (Int32.ofNat e2)), (.int (Int32.ofNat s2)), (.ref ba)]) (ls' := #[.val (.long q1), .second, .val (.long q2), .second, .val (.int p3), .val (.int p4), .val (.int p5), .val (.ref ba), .val (.ref ca), .val (.int (Int32.ofNat j)), .val (.int ((XT.ushr p5 (8 : Int32)) &&& (7 : Int32))), .val (.int (Int32.ofNat s1)), .val (.int (Int32.ofNat e1)), .val (.int (Int32.ofNat s2)), .val (.int (Int32.ofNat e2)), .val (.long (own_mix (own_p bs s1 (e1 - s1)))), .second, .val (.long (own_mix (own_p bs s2 (e2 - s2)))), .second, .val (.long (own_mix (own_p cs15 s1 (e1 - s1)))), .second, .val (.long (own_p bs s1 (e1 - s1))), .second, .unset, .unset, .unset, .unset, .unset, .unset]) b0_161_167 rfl ?_
  refine o_callS (W := 0) (argsL := [(.ref ba), (.int (Int32.ofNat s2)), (.int (Int32.ofNat e2))]) (rest := []) (pc' := 170) (own_word hw 16 rfl) (own_word hw 17 rfl) (own_word hw 2 rfl) (own_word hw 18 rfl) (by decide) (fun hE => rm_poly l Z a0 hw h11 hE ba bk bs s2 e2 he2a he2b hlb F12) d0_167 pd_2 rfl rfl rfl (Nat.le_of_eq rfl) (by decide) (by decide) (by decide) (by decide) rfl ?_
  rintro _ _ ⟨rfl, rfl⟩ hs22
  refine o_blk (pc' := 172) (st' := []) (ls' := #[.val (.long q1), .second, .val (.long q2), .second, .val (.int p3), .val (.int p4), .val (.int p5), .val (.ref ba), .val (.ref ca), .val (.int (Int32.ofNat j)), .val (.int ((XT.ushr p5 (8 : Int32)) &&& (7 : Int32))), .val (.int (Int32.ofNat s1)), .val (.int (Int32.ofNat e1)), .val (.int (Int32.ofNat s2)), .val (.int (Int32.ofNat e2)), .val (.long (own_mix (own_p bs s1 (e1 - s1)))), .second, .val (.long (own_mix (own_p bs s2 (e2 - s2)))), .second, .val (.long (own_mix (own_p cs15 s1 (e1 - s1)))), .second, .val (.long (own_p bs s1 (e1 - s1))), .second, .val (.long (own_p bs s2 (e2 - s2))), .second, .unset, .unset, .unset, .unset]) b0_170_172 rfl ?_
  refine o_blk (pc' := 178) (st' := [(.int (Int32.ofNat e1)), (.int (Int32.ofNat s1)), (.ref ca)]) (ls' := #[.val (.long q1), .second, .val (.long q2), .second, .val (.int p3), .val (.int p4), .val (.int p5), .val (.ref ba), .val (.ref ca), .val (.int (Int32.ofNat j)), .val (.int ((XT.ushr p5 (8 : Int32)) &&& (7 : Int32))), .val (.int (Int32.ofNat s1)), .val (.int (Int32.ofNat e1)), .val (.int (Int32.ofNat s2)), .val (.int (Int32.ofNat e2)), .val (.long (own_mix (own_p bs s1 (e1 - s1)))), .second, .val (.long (own_mix (own_p bs s2 (e2 - s2)))), .second, .val (.long (own_mix (own_p cs15 s1 (e1 - s1)))), .second, .val (.long (own_p bs s1 (e1 - s1))), .second, .val (.long (own_p bs s2 (e2 - s2))), .second, .unset, .unset, .unset, .unset]) b0_172_178 rfl ?_
  refine o_callS (W := 0) (argsL := [(.ref ca), (.int (Int32.ofNat s1)), (.int (Int32.ofNat e1))]) (rest := []) (pc' := 181) (own_word hw 16 rfl) (own_word hw 17 rfl) (own_word hw 2 rfl) (own_word hw 18 rfl) (by decide) (fun hE => rm_poly l Z a0 hw h11 hE ca ck cs15 s1 e1 he1a he1b hlc15 Fc15) d0_178 pd_2 rfl rfl rfl (Nat.le_of_eq rfl) (by decide) (by decide) (by decide) (by decide) rfl ?_
  rintro _ _ ⟨rfl, rfl⟩ hs23
  refine o_blk (pc' := 183) (st' := []) (ls' := #[.val (.long q1), .second, .val (.long q2), .second, .val (.int p3), .val (.int p4), .val (.int p5), .val (.ref ba), .val (.ref ca), .val (.int (Int32.ofNat j)), .val (.int ((XT.ushr p5 (8 : Int32)) &&& (7 : Int32))), .val (.int (Int32.ofNat s1)), .val (.int (Int32.ofNat e1)), .val (.int (Int32.ofNat s2)), .val (.int (Int32.ofNat e2)), .val (.long (own_mix (own_p bs s1 (e1 - s1)))), .second, .val (.long (own_mix (own_p bs s2 (e2 - s2)))), .second, .val (.long (own_mix (own_p cs15 s1 (e1 - s1)))), .second, .val (.long (own_p bs s1 (e1 - s1))), .second, .val (.long (own_p bs s2 (e2 - s2))), .second, .val (.long (own_p cs15 s1 (e1 - s1))), .second, .unset, .unset]) b0_181_183 rfl ?_
  refine o_blk (pc' := 188) (st' := [(.int (XT.cmpL (own_mix (own_p bs s1 (e1 - s1))) (own_mix (own_p bs s2 (e2 - s2)))))]) (ls' := #[.val (.long q1), .second, .val (.long q2), .second, .val (.int p3), .val (.int p4), .val (.int p5), .val (.ref ba), .val (.ref ca), .val (.int (Int32.ofNat j)), .val (.int ((XT.ushr p5 (8 : Int32)) &&& (7 : Int32))), .val (.int (Int32.ofNat s1)), .val (.int (Int32.ofNat e1)), .val (.int (Int32.ofNat s2)), .val (.int (Int32.ofNat e2)), .val (.long (own_mix (own_p bs s1 (e1 - s1)))), .second, .val (.long (own_mix (own_p bs s2 (e2 - s2)))), .second, .val (.long (own_mix (own_p cs15 s1 (e1 - s1)))), .second, .val (.long (own_p bs s1 (e1 - s1))), .second, .val (.long (own_p bs s2 (e2 - s2))), .second, .val (.long (own_p cs15 s1 (e1 - s1))), .second, .unset, .unset]) b0_183_188 rfl ?_
  refine o_if (pc' := 195) (pc'' := 191) d0_188 (by decide) (by decide) rfl (fun (hc188_24 : ¬ (XT.cmpL (own_mix (own_p bs s1 (e1 - s1))) (own_mix (own_p bs s2 (e2 - s2)))) = 0) => ?_) (fun (hc188_24 : (XT.cmpL (own_mix (own_p bs s1 (e1 - s1))) (own_mix (own_p bs s2 (e2 - s2)))) = 0) => ?_)
  ·
    refine o_blk (pc' := 201) (st' := [(.int (XT.cmpL (own_p bs s1 (e1 - s1)) (own_p bs s2 (e2 - s2)))), (.int (0 : Int32))]) (ls' := #[.val (.long q1), .second, .val (.long q2), .second, .val (.int p3), .val (.int p4), .val (.int p5), .val (.ref ba), .val (.ref ca), .val (.int (Int32.ofNat j)), .val (.int ((XT.ushr p5 (8 : Int32)) &&& (7 : Int32))), .val (.int (Int32.ofNat s1)), .val (.int (Int32.ofNat e1)), .val (.int (Int32.ofNat s2)), .val (.int (Int32.ofNat e2)), .val (.long (own_mix (own_p bs s1 (e1 - s1)))), .second, .val (.long (own_mix (own_p bs s2 (e2 - s2)))), .second, .val (.long (own_mix (own_p cs15 s1 (e1 - s1)))), .second, .val (.long (own_p bs s1 (e1 - s1))), .second, .val (.long (own_p bs s2 (e2 - s2))), .second, .val (.long (own_p cs15 s1 (e1 - s1))), .second, .unset, .unset]) b0_195_201 rfl ?_
    refine o_ifY (pc' := 208) d0_201 (by decide) (by decide) (fun q => hc188_24 ((own_mx _ _).mpr q) : ¬ (XT.cmpL (own_p bs s1 (e1 - s1)) (own_p bs s2 (e2 - s2))) = 0) ?_
    refine o_blk (pc' := 209) (st' := [(.int (0 : Int32)), (.int (0 : Int32))]) (ls' := #[.val (.long q1), .second, .val (.long q2), .second, .val (.int p3), .val (.int p4), .val (.int p5), .val (.ref ba), .val (.ref ca), .val (.int (Int32.ofNat j)), .val (.int ((XT.ushr p5 (8 : Int32)) &&& (7 : Int32))), .val (.int (Int32.ofNat s1)), .val (.int (Int32.ofNat e1)), .val (.int (Int32.ofNat s2)), .val (.int (Int32.ofNat e2)), .val (.long (own_mix (own_p bs s1 (e1 - s1)))), .second, .val (.long (own_mix (own_p bs s2 (e2 - s2)))), .second, .val (.long (own_mix (own_p cs15 s1 (e1 - s1)))), .second, .val (.long (own_p bs s1 (e1 - s1))), .second, .val (.long (own_p bs s2 (e2 - s2))), .second, .val (.long (own_p cs15 s1 (e1 - s1))), .second, .unset, .unset]) b0_208_209 rfl ?_
    refine o_icN (pc' := 212) d0_209 rfl (rfl : (0 : Int32) = (0 : Int32)) ?_
    refine o_blk (pc' := 213) (st' := [(.int (1 : Int32))]) (ls' := #[.val (.long q1), .second, .val (.long q2), .second, .val (.int p3), .val (.int p4), .val (.int p5), .val (.ref ba), .val (.ref ca), .val (.int (Int32.ofNat j)), .val (.int ((XT.ushr p5 (8 : Int32)) &&& (7 : Int32))), .val (.int (Int32.ofNat s1)), .val (.int (Int32.ofNat e1)), .val (.int (Int32.ofNat s2)), .val (.int (Int32.ofNat e2)), .val (.long (own_mix (own_p bs s1 (e1 - s1)))), .second, .val (.long (own_mix (own_p bs s2 (e2 - s2)))), .second, .val (.long (own_mix (own_p cs15 s1 (e1 - s1)))), .second, .val (.long (own_p bs s1 (e1 - s1))), .second, .val (.long (own_p bs s2 (e2 - s2))), .second, .val (.long (own_p cs15 s1 (e1 - s1))), .second, .unset, .unset]) b0_212_213 rfl ?_
    refine o_goto (pc' := 217) d0_213 (by decide) (by decide) ?_
    refine o_blk (pc' := 219) (st' := []) (ls' := #[.val (.long q1), .second, .val (.long q2), .second, .val (.int p3), .val (.int p4), .val (.int p5), .val (.ref ba), .val (.ref ca), .val (.int (Int32.ofNat j)), .val (.int ((XT.ushr p5 (8 : Int32)) &&& (7 : Int32))), .val (.int (Int32.ofNat s1)), .val (.int (Int32.ofNat e1)), .val (.int (Int32.ofNat s2)), .val (.int (Int32.ofNat e2)), .val (.long (own_mix (own_p bs s1 (e1 - s1)))), .second, .val (.long (own_mix (own_p bs s2 (e2 - s2)))), .second, .val (.long (own_mix (own_p cs15 s1 (e1 - s1)))), .second, .val (.long (own_p bs s1 (e1 - s1))), .second, .val (.long (own_p bs s2 (e2 - s2))), .second, .val (.long (own_p cs15 s1 (e1 - s1))), .second, .val (.int (1 : Int32)), .unset]) b0_217_219 rfl ?_
    refine o_blk (pc' := 224) (st' := [(.int (XT.cmpL (own_mix (own_p bs s1 (e1 - s1))) (own_mix (own_p cs15 s1 (e1 - s1)))))]) (ls' := #[.val (.long q1), .second, .val (.long q2), .second, .val (.int p3), .val (.int p4), .val (.int p5), .val (.ref ba), .val (.ref ca), .val (.int (Int32.ofNat j)), .val (.int ((XT.ushr p5 (8 : Int32)) &&& (7 : Int32))), .val (.int (Int32.ofNat s1)), .val (.int (Int32.ofNat e1)), .val (.int (Int32.ofNat s2)), .val (.int (Int32.ofNat e2)), .val (.long (own_mix (own_p bs s1 (e1 - s1)))), .second, .val (.long (own_mix (own_p bs s2 (e2 - s2)))), .second, .val (.long (own_mix (own_p cs15 s1 (e1 - s1)))), .second, .val (.long (own_p bs s1 (e1 - s1))), .second, .val (.long (own_p bs s2 (e2 - s2))), .second, .val (.long (own_p cs15 s1 (e1 - s1))), .second, .val (.int (1 : Int32)), .unset]) b0_219_224 rfl ?_
    refine o_if (pc' := 231) (pc'' := 227) d0_224 (by decide) (by decide) rfl (fun (hc224_25 : ¬ (XT.cmpL (own_mix (own_p bs s1 (e1 - s1))) (own_mix (own_p cs15 s1 (e1 - s1)))) = 0) => ?_) (fun (hc224_25 : (XT.cmpL (own_mix (own_p bs s1 (e1 - s1))) (own_mix (own_p cs15 s1 (e1 - s1)))) = 0) => ?_)
    ·
      refine o_blk (pc' := 237) (st' := [(.int (XT.cmpL (own_p bs s1 (e1 - s1)) (own_p cs15 s1 (e1 - s1)))), (.int (0 : Int32))]) (ls' := #[.val (.long q1), .second, .val (.long q2), .second, .val (.int p3), .val (.int p4), .val (.int p5), .val (.ref ba), .val (.ref ca), .val (.int (Int32.ofNat j)), .val (.int ((XT.ushr p5 (8 : Int32)) &&& (7 : Int32))), .val (.int (Int32.ofNat s1)), .val (.int (Int32.ofNat e1)), .val (.int (Int32.ofNat s2)), .val (.int (Int32.ofNat e2)), .val (.long (own_mix (own_p bs s1 (e1 - s1)))), .second, .val (.long (own_mix (own_p bs s2 (e2 - s2)))), .second, .val (.long (own_mix (own_p cs15 s1 (e1 - s1)))), .second, .val (.long (own_p bs s1 (e1 - s1))), .second, .val (.long (own_p bs s2 (e2 - s2))), .second, .val (.long (own_p cs15 s1 (e1 - s1))), .second, .val (.int (1 : Int32)), .unset]) b0_231_237 rfl ?_
      refine o_ifY (pc' := 244) d0_237 (by decide) (by decide) (fun q => hc224_25 ((own_mx _ _).mpr q) : ¬ (XT.cmpL (own_p bs s1 (e1 - s1)) (own_p cs15 s1 (e1 - s1))) = 0) ?_
      refine o_blk (pc' := 245) (st' := [(.int (0 : Int32)), (.int (0 : Int32))]) (ls' := #[.val (.long q1), .second, .val (.long q2), .second, .val (.int p3), .val (.int p4), .val (.int p5), .val (.ref ba), .val (.ref ca), .val (.int (Int32.ofNat j)), .val (.int ((XT.ushr p5 (8 : Int32)) &&& (7 : Int32))), .val (.int (Int32.ofNat s1)), .val (.int (Int32.ofNat e1)), .val (.int (Int32.ofNat s2)), .val (.int (Int32.ofNat e2)), .val (.long (own_mix (own_p bs s1 (e1 - s1)))), .second, .val (.long (own_mix (own_p bs s2 (e2 - s2)))), .second, .val (.long (own_mix (own_p cs15 s1 (e1 - s1)))), .second, .val (.long (own_p bs s1 (e1 - s1))), .second, .val (.long (own_p bs s2 (e2 - s2))), .second, .val (.long (own_p cs15 s1 (e1 - s1))), .second, .val (.int (1 : Int32)), .unset]) b0_244_245 rfl ?_
      refine o_icN (pc' := 248) d0_245 rfl (rfl : (0 : Int32) = (0 : Int32)) ?_
      refine o_blk (pc' := 249) (st' := [(.int (1 : Int32))]) (ls' := #[.val (.long q1), .second, .val (.long q2), .second, .val (.int p3), .val (.int p4), .val (.int p5), .val (.ref ba), .val (.ref ca), .val (.int (Int32.ofNat j)), .val (.int ((XT.ushr p5 (8 : Int32)) &&& (7 : Int32))), .val (.int (Int32.ofNat s1)), .val (.int (Int32.ofNat e1)), .val (.int (Int32.ofNat s2)), .val (.int (Int32.ofNat e2)), .val (.long (own_mix (own_p bs s1 (e1 - s1)))), .second, .val (.long (own_mix (own_p bs s2 (e2 - s2)))), .second, .val (.long (own_mix (own_p cs15 s1 (e1 - s1)))), .second, .val (.long (own_p bs s1 (e1 - s1))), .second, .val (.long (own_p bs s2 (e2 - s2))), .second, .val (.long (own_p cs15 s1 (e1 - s1))), .second, .val (.int (1 : Int32)), .unset]) b0_248_249 rfl ?_
      refine o_goto (pc' := 253) d0_249 (by decide) (by decide) ?_
      refine o_blk (pc' := 255) (st' := []) (ls' := #[.val (.long q1), .second, .val (.long q2), .second, .val (.int p3), .val (.int p4), .val (.int p5), .val (.ref ba), .val (.ref ca), .val (.int (Int32.ofNat j)), .val (.int ((XT.ushr p5 (8 : Int32)) &&& (7 : Int32))), .val (.int (Int32.ofNat s1)), .val (.int (Int32.ofNat e1)), .val (.int (Int32.ofNat s2)), .val (.int (Int32.ofNat e2)), .val (.long (own_mix (own_p bs s1 (e1 - s1)))), .second, .val (.long (own_mix (own_p bs s2 (e2 - s2)))), .second, .val (.long (own_mix (own_p cs15 s1 (e1 - s1)))), .second, .val (.long (own_p bs s1 (e1 - s1))), .second, .val (.long (own_p bs s2 (e2 - s2))), .second, .val (.long (own_p cs15 s1 (e1 - s1))), .second, .val (.int (1 : Int32)), .val (.int (1 : Int32))]) b0_253_255 rfl ?_
      refine o_blk (pc' := 257) (st' := [(.int (1 : Int32))]) (ls' := #[.val (.long q1), .second, .val (.long q2), .second, .val (.int p3), .val (.int p4), .val (.int p5), .val (.ref ba), .val (.ref ca), .val (.int (Int32.ofNat j)), .val (.int ((XT.ushr p5 (8 : Int32)) &&& (7 : Int32))), .val (.int (Int32.ofNat s1)), .val (.int (Int32.ofNat e1)), .val (.int (Int32.ofNat s2)), .val (.int (Int32.ofNat e2)), .val (.long (own_mix (own_p bs s1 (e1 - s1)))), .second, .val (.long (own_mix (own_p bs s2 (e2 - s2)))), .second, .val (.long (own_mix (own_p cs15 s1 (e1 - s1)))), .second, .val (.long (own_p bs s1 (e1 - s1))), .second, .val (.long (own_p bs s2 (e2 - s2))), .second, .val (.long (own_p cs15 s1 (e1 - s1))), .second, .val (.int (1 : Int32)), .val (.int (1 : Int32))]) b0_255_257 rfl ?_
      refine o_ifN (pc' := 260) d0_257 rfl (by decide : ¬ (1 : Int32) = 0) ?_
      refine o_blk (pc' := 262) (st' := [(.int (1 : Int32))]) (ls' := #[.val (.long q1), .second, .val (.long q2), .second, .val (.int p3), .val (.int p4), .val (.int p5), .val (.ref ba), .val (.ref ca), .val (.int (Int32.ofNat j)), .val (.int ((XT.ushr p5 (8 : Int32)) &&& (7 : Int32))), .val (.int (Int32.ofNat s1)), .val (.int (Int32.ofNat e1)), .val (.int (Int32.ofNat s2)), .val (.int (Int32.ofNat e2)), .val (.long (own_mix (own_p bs s1 (e1 - s1)))), .second, .val (.long (own_mix (own_p bs s2 (e2 - s2)))), .second, .val (.long (own_mix (own_p cs15 s1 (e1 - s1)))), .second, .val (.long (own_p bs s1 (e1 - s1))), .second, .val (.long (own_p bs s2 (e2 - s2))), .second, .val (.long (own_p cs15 s1 (e1 - s1))), .second, .val (.int (1 : Int32)), .val (.int (1 : Int32))]) b0_260_262 rfl ?_
      refine o_ifN (pc' := 265) d0_262 rfl (by decide : ¬ (1 : Int32) = 0) ?_
      refine o_blk (pc' := 266) (st' := [(.int (1 : Int32))]) (ls' := #[.val (.long q1), .second, .val (.long q2), .second, .val (.int p3), .val (.int p4), .val (.int p5), .val (.ref ba), .val (.ref ca), .val (.int (Int32.ofNat j)), .val (.int ((XT.ushr p5 (8 : Int32)) &&& (7 : Int32))), .val (.int (Int32.ofNat s1)), .val (.int (Int32.ofNat e1)), .val (.int (Int32.ofNat s2)), .val (.int (Int32.ofNat e2)), .val (.long (own_mix (own_p bs s1 (e1 - s1)))), .second, .val (.long (own_mix (own_p bs s2 (e2 - s2)))), .second, .val (.long (own_mix (own_p cs15 s1 (e1 - s1)))), .second, .val (.long (own_p bs s1 (e1 - s1))), .second, .val (.long (own_p bs s2 (e2 - s2))), .second, .val (.long (own_p cs15 s1 (e1 - s1))), .second, .val (.int (1 : Int32)), .val (.int (1 : Int32))]) b0_265_266 rfl ?_
      refine o_goto (pc' := 270) d0_266 (by decide) (by decide) ?_
      exact o_retZ (w := 0) d0_270 (by decide) (by decide) rfl (by decide) rfl
    ·
      refine o_blk (pc' := 228) (st' := [(.int (1 : Int32))]) (ls' := #[.val (.long q1), .second, .val (.long q2), .second, .val (.int p3), .val (.int p4), .val (.int p5), .val (.ref ba), .val (.ref ca), .val (.int (Int32.ofNat j)), .val (.int ((XT.ushr p5 (8 : Int32)) &&& (7 : Int32))), .val (.int (Int32.ofNat s1)), .val (.int (Int32.ofNat e1)), .val (.int (Int32.ofNat s2)), .val (.int (Int32.ofNat e2)), .val (.long (own_mix (own_p bs s1 (e1 - s1)))), .second, .val (.long (own_mix (own_p bs s2 (e2 - s2)))), .second, .val (.long (own_mix (own_p cs15 s1 (e1 - s1)))), .second, .val (.long (own_p bs s1 (e1 - s1))), .second, .val (.long (own_p bs s2 (e2 - s2))), .second, .val (.long (own_p cs15 s1 (e1 - s1))), .second, .val (.int (1 : Int32)), .unset]) b0_227_228 rfl ?_
      refine o_goto (pc' := 232) d0_228 (by decide) (by decide) ?_
      refine o_blk (pc' := 237) (st' := [(.int (XT.cmpL (own_p bs s1 (e1 - s1)) (own_p cs15 s1 (e1 - s1)))), (.int (1 : Int32))]) (ls' := #[.val (.long q1), .second, .val (.long q2), .second, .val (.int p3), .val (.int p4), .val (.int p5), .val (.ref ba), .val (.ref ca), .val (.int (Int32.ofNat j)), .val (.int ((XT.ushr p5 (8 : Int32)) &&& (7 : Int32))), .val (.int (Int32.ofNat s1)), .val (.int (Int32.ofNat e1)), .val (.int (Int32.ofNat s2)), .val (.int (Int32.ofNat e2)), .val (.long (own_mix (own_p bs s1 (e1 - s1)))), .second, .val (.long (own_mix (own_p bs s2 (e2 - s2)))), .second, .val (.long (own_mix (own_p cs15 s1 (e1 - s1)))), .second, .val (.long (own_p bs s1 (e1 - s1))), .second, .val (.long (own_p bs s2 (e2 - s2))), .second, .val (.long (own_p cs15 s1 (e1 - s1))), .second, .val (.int (1 : Int32)), .unset]) b0_232_237 rfl ?_
      refine o_ifN (pc' := 240) d0_237 rfl ((own_mx _ _).mp hc224_25 : (XT.cmpL (own_p bs s1 (e1 - s1)) (own_p cs15 s1 (e1 - s1))) = 0) ?_
      refine o_blk (pc' := 241) (st' := [(.int (1 : Int32)), (.int (1 : Int32))]) (ls' := #[.val (.long q1), .second, .val (.long q2), .second, .val (.int p3), .val (.int p4), .val (.int p5), .val (.ref ba), .val (.ref ca), .val (.int (Int32.ofNat j)), .val (.int ((XT.ushr p5 (8 : Int32)) &&& (7 : Int32))), .val (.int (Int32.ofNat s1)), .val (.int (Int32.ofNat e1)), .val (.int (Int32.ofNat s2)), .val (.int (Int32.ofNat e2)), .val (.long (own_mix (own_p bs s1 (e1 - s1)))), .second, .val (.long (own_mix (own_p bs s2 (e2 - s2)))), .second, .val (.long (own_mix (own_p cs15 s1 (e1 - s1)))), .second, .val (.long (own_p bs s1 (e1 - s1))), .second, .val (.long (own_p bs s2 (e2 - s2))), .second, .val (.long (own_p cs15 s1 (e1 - s1))), .second, .val (.int (1 : Int32)), .unset]) b0_240_241 rfl ?_
      refine o_goto (pc' := 245) d0_241 (by decide) (by decide) ?_
      refine o_icN (pc' := 248) d0_245 rfl (rfl : (1 : Int32) = (1 : Int32)) ?_
      refine o_blk (pc' := 249) (st' := [(.int (1 : Int32))]) (ls' := #[.val (.long q1), .second, .val (.long q2), .second, .val (.int p3), .val (.int p4), .val (.int p5), .val (.ref ba), .val (.ref ca), .val (.int (Int32.ofNat j)), .val (.int ((XT.ushr p5 (8 : Int32)) &&& (7 : Int32))), .val (.int (Int32.ofNat s1)), .val (.int (Int32.ofNat e1)), .val (.int (Int32.ofNat s2)), .val (.int (Int32.ofNat e2)), .val (.long (own_mix (own_p bs s1 (e1 - s1)))), .second, .val (.long (own_mix (own_p bs s2 (e2 - s2)))), .second, .val (.long (own_mix (own_p cs15 s1 (e1 - s1)))), .second, .val (.long (own_p bs s1 (e1 - s1))), .second, .val (.long (own_p bs s2 (e2 - s2))), .second, .val (.long (own_p cs15 s1 (e1 - s1))), .second, .val (.int (1 : Int32)), .unset]) b0_248_249 rfl ?_
      refine o_goto (pc' := 253) d0_249 (by decide) (by decide) ?_
      refine o_blk (pc' := 255) (st' := []) (ls' := #[.val (.long q1), .second, .val (.long q2), .second, .val (.int p3), .val (.int p4), .val (.int p5), .val (.ref ba), .val (.ref ca), .val (.int (Int32.ofNat j)), .val (.int ((XT.ushr p5 (8 : Int32)) &&& (7 : Int32))), .val (.int (Int32.ofNat s1)), .val (.int (Int32.ofNat e1)), .val (.int (Int32.ofNat s2)), .val (.int (Int32.ofNat e2)), .val (.long (own_mix (own_p bs s1 (e1 - s1)))), .second, .val (.long (own_mix (own_p bs s2 (e2 - s2)))), .second, .val (.long (own_mix (own_p cs15 s1 (e1 - s1)))), .second, .val (.long (own_p bs s1 (e1 - s1))), .second, .val (.long (own_p bs s2 (e2 - s2))), .second, .val (.long (own_p cs15 s1 (e1 - s1))), .second, .val (.int (1 : Int32)), .val (.int (1 : Int32))]) b0_253_255 rfl ?_
      refine o_blk (pc' := 257) (st' := [(.int (1 : Int32))]) (ls' := #[.val (.long q1), .second, .val (.long q2), .second, .val (.int p3), .val (.int p4), .val (.int p5), .val (.ref ba), .val (.ref ca), .val (.int (Int32.ofNat j)), .val (.int ((XT.ushr p5 (8 : Int32)) &&& (7 : Int32))), .val (.int (Int32.ofNat s1)), .val (.int (Int32.ofNat e1)), .val (.int (Int32.ofNat s2)), .val (.int (Int32.ofNat e2)), .val (.long (own_mix (own_p bs s1 (e1 - s1)))), .second, .val (.long (own_mix (own_p bs s2 (e2 - s2)))), .second, .val (.long (own_mix (own_p cs15 s1 (e1 - s1)))), .second, .val (.long (own_p bs s1 (e1 - s1))), .second, .val (.long (own_p bs s2 (e2 - s2))), .second, .val (.long (own_p cs15 s1 (e1 - s1))), .second, .val (.int (1 : Int32)), .val (.int (1 : Int32))]) b0_255_257 rfl ?_
      refine o_ifN (pc' := 260) d0_257 rfl (by decide : ¬ (1 : Int32) = 0) ?_
      refine o_blk (pc' := 262) (st' := [(.int (1 : Int32))]) (ls' := #[.val (.long q1), .second, .val (.long q2), .second, .val (.int p3), .val (.int p4), .val (.int p5), .val (.ref ba), .val (.ref ca), .val (.int (Int32.ofNat j)), .val (.int ((XT.ushr p5 (8 : Int32)) &&& (7 : Int32))), .val (.int (Int32.ofNat s1)), .val (.int (Int32.ofNat e1)), .val (.int (Int32.ofNat s2)), .val (.int (Int32.ofNat e2)), .val (.long (own_mix (own_p bs s1 (e1 - s1)))), .second, .val (.long (own_mix (own_p bs s2 (e2 - s2)))), .second, .val (.long (own_mix (own_p cs15 s1 (e1 - s1)))), .second, .val (.long (own_p bs s1 (e1 - s1))), .second, .val (.long (own_p bs s2 (e2 - s2))), .second, .val (.long (own_p cs15 s1 (e1 - s1))), .second, .val (.int (1 : Int32)), .val (.int (1 : Int32))]) b0_260_262 rfl ?_
      refine o_ifN (pc' := 265) d0_262 rfl (by decide : ¬ (1 : Int32) = 0) ?_
      refine o_blk (pc' := 266) (st' := [(.int (1 : Int32))]) (ls' := #[.val (.long q1), .second, .val (.long q2), .second, .val (.int p3), .val (.int p4), .val (.int p5), .val (.ref ba), .val (.ref ca), .val (.int (Int32.ofNat j)), .val (.int ((XT.ushr p5 (8 : Int32)) &&& (7 : Int32))), .val (.int (Int32.ofNat s1)), .val (.int (Int32.ofNat e1)), .val (.int (Int32.ofNat s2)), .val (.int (Int32.ofNat e2)), .val (.long (own_mix (own_p bs s1 (e1 - s1)))), .second, .val (.long (own_mix (own_p bs s2 (e2 - s2)))), .second, .val (.long (own_mix (own_p cs15 s1 (e1 - s1)))), .second, .val (.long (own_p bs s1 (e1 - s1))), .second, .val (.long (own_p bs s2 (e2 - s2))), .second, .val (.long (own_p cs15 s1 (e1 - s1))), .second, .val (.int (1 : Int32)), .val (.int (1 : Int32))]) b0_265_266 rfl ?_
      refine o_goto (pc' := 270) d0_266 (by decide) (by decide) ?_
      exact o_retZ (w := 0) d0_270 (by decide) (by decide) rfl (by decide) rfl
  ·
    refine o_blk (pc' := 192) (st' := [(.int (1 : Int32))]) (ls' := #[.val (.long q1), .second, .val (.long q2), .second, .val (.int p3), .val (.int p4), .val (.int p5), .val (.ref ba), .val (.ref ca), .val (.int (Int32.ofNat j)), .val (.int ((XT.ushr p5 (8 : Int32)) &&& (7 : Int32))), .val (.int (Int32.ofNat s1)), .val (.int (Int32.ofNat e1)), .val (.int (Int32.ofNat s2)), .val (.int (Int32.ofNat e2)), .val (.long (own_mix (own_p bs s1 (e1 - s1)))), .second, .val (.long (own_mix (own_p bs s2 (e2 - s2)))), .second, .val (.long (own_mix (own_p cs15 s1 (e1 - s1)))), .second, .val (.long (own_p bs s1 (e1 - s1))), .second, .val (.long (own_p bs s2 (e2 - s2))), .second, .val (.long (own_p cs15 s1 (e1 - s1))), .second, .unset, .unset]) b0_191_192 rfl ?_
    refine o_goto (pc' := 196) d0_192 (by decide) (by decide) ?_
    refine o_blk (pc' := 201) (st' := [(.int (XT.cmpL (own_p bs s1 (e1 - s1)) (own_p bs s2 (e2 - s2)))), (.int (1 : Int32))]) (ls' := #[.val (.long q1), .second, .val (.long q2), .second, .val (.int p3), .val (.int p4), .val (.int p5), .val (.ref ba), .val (.ref ca), .val (.int (Int32.ofNat j)), .val (.int ((XT.ushr p5 (8 : Int32)) &&& (7 : Int32))), .val (.int (Int32.ofNat s1)), .val (.int (Int32.ofNat e1)), .val (.int (Int32.ofNat s2)), .val (.int (Int32.ofNat e2)), .val (.long (own_mix (own_p bs s1 (e1 - s1)))), .second, .val (.long (own_mix (own_p bs s2 (e2 - s2)))), .second, .val (.long (own_mix (own_p cs15 s1 (e1 - s1)))), .second, .val (.long (own_p bs s1 (e1 - s1))), .second, .val (.long (own_p bs s2 (e2 - s2))), .second, .val (.long (own_p cs15 s1 (e1 - s1))), .second, .unset, .unset]) b0_196_201 rfl ?_
    refine o_ifN (pc' := 204) d0_201 rfl ((own_mx _ _).mp hc188_24 : (XT.cmpL (own_p bs s1 (e1 - s1)) (own_p bs s2 (e2 - s2))) = 0) ?_
    refine o_blk (pc' := 205) (st' := [(.int (1 : Int32)), (.int (1 : Int32))]) (ls' := #[.val (.long q1), .second, .val (.long q2), .second, .val (.int p3), .val (.int p4), .val (.int p5), .val (.ref ba), .val (.ref ca), .val (.int (Int32.ofNat j)), .val (.int ((XT.ushr p5 (8 : Int32)) &&& (7 : Int32))), .val (.int (Int32.ofNat s1)), .val (.int (Int32.ofNat e1)), .val (.int (Int32.ofNat s2)), .val (.int (Int32.ofNat e2)), .val (.long (own_mix (own_p bs s1 (e1 - s1)))), .second, .val (.long (own_mix (own_p bs s2 (e2 - s2)))), .second, .val (.long (own_mix (own_p cs15 s1 (e1 - s1)))), .second, .val (.long (own_p bs s1 (e1 - s1))), .second, .val (.long (own_p bs s2 (e2 - s2))), .second, .val (.long (own_p cs15 s1 (e1 - s1))), .second, .unset, .unset]) b0_204_205 rfl ?_
    refine o_goto (pc' := 209) d0_205 (by decide) (by decide) ?_
    refine o_icN (pc' := 212) d0_209 rfl (rfl : (1 : Int32) = (1 : Int32)) ?_
    refine o_blk (pc' := 213) (st' := [(.int (1 : Int32))]) (ls' := #[.val (.long q1), .second, .val (.long q2), .second, .val (.int p3), .val (.int p4), .val (.int p5), .val (.ref ba), .val (.ref ca), .val (.int (Int32.ofNat j)), .val (.int ((XT.ushr p5 (8 : Int32)) &&& (7 : Int32))), .val (.int (Int32.ofNat s1)), .val (.int (Int32.ofNat e1)), .val (.int (Int32.ofNat s2)), .val (.int (Int32.ofNat e2)), .val (.long (own_mix (own_p bs s1 (e1 - s1)))), .second, .val (.long (own_mix (own_p bs s2 (e2 - s2)))), .second, .val (.long (own_mix (own_p cs15 s1 (e1 - s1)))), .second, .val (.long (own_p bs s1 (e1 - s1))), .second, .val (.long (own_p bs s2 (e2 - s2))), .second, .val (.long (own_p cs15 s1 (e1 - s1))), .second, .unset, .unset]) b0_212_213 rfl ?_
    refine o_goto (pc' := 217) d0_213 (by decide) (by decide) ?_
    refine o_blk (pc' := 219) (st' := []) (ls' := #[.val (.long q1), .second, .val (.long q2), .second, .val (.int p3), .val (.int p4), .val (.int p5), .val (.ref ba), .val (.ref ca), .val (.int (Int32.ofNat j)), .val (.int ((XT.ushr p5 (8 : Int32)) &&& (7 : Int32))), .val (.int (Int32.ofNat s1)), .val (.int (Int32.ofNat e1)), .val (.int (Int32.ofNat s2)), .val (.int (Int32.ofNat e2)), .val (.long (own_mix (own_p bs s1 (e1 - s1)))), .second, .val (.long (own_mix (own_p bs s2 (e2 - s2)))), .second, .val (.long (own_mix (own_p cs15 s1 (e1 - s1)))), .second, .val (.long (own_p bs s1 (e1 - s1))), .second, .val (.long (own_p bs s2 (e2 - s2))), .second, .val (.long (own_p cs15 s1 (e1 - s1))), .second, .val (.int (1 : Int32)), .unset]) b0_217_219 rfl ?_
    refine o_blk (pc' := 224) (st' := [(.int (XT.cmpL (own_mix (own_p bs s1 (e1 - s1))) (own_mix (own_p cs15 s1 (e1 - s1)))))]) (ls' := #[.val (.long q1), .second, .val (.long q2), .second, .val (.int p3), .val (.int p4), .val (.int p5), .val (.ref ba), .val (.ref ca), .val (.int (Int32.ofNat j)), .val (.int ((XT.ushr p5 (8 : Int32)) &&& (7 : Int32))), .val (.int (Int32.ofNat s1)), .val (.int (Int32.ofNat e1)), .val (.int (Int32.ofNat s2)), .val (.int (Int32.ofNat e2)), .val (.long (own_mix (own_p bs s1 (e1 - s1)))), .second, .val (.long (own_mix (own_p bs s2 (e2 - s2)))), .second, .val (.long (own_mix (own_p cs15 s1 (e1 - s1)))), .second, .val (.long (own_p bs s1 (e1 - s1))), .second, .val (.long (own_p bs s2 (e2 - s2))), .second, .val (.long (own_p cs15 s1 (e1 - s1))), .second, .val (.int (1 : Int32)), .unset]) b0_219_224 rfl ?_
    refine o_if (pc' := 231) (pc'' := 227) d0_224 (by decide) (by decide) rfl (fun (hc224_26 : ¬ (XT.cmpL (own_mix (own_p bs s1 (e1 - s1))) (own_mix (own_p cs15 s1 (e1 - s1)))) = 0) => ?_) (fun (hc224_26 : (XT.cmpL (own_mix (own_p bs s1 (e1 - s1))) (own_mix (own_p cs15 s1 (e1 - s1)))) = 0) => ?_)
    ·
      refine o_blk (pc' := 237) (st' := [(.int (XT.cmpL (own_p bs s1 (e1 - s1)) (own_p cs15 s1 (e1 - s1)))), (.int (0 : Int32))]) (ls' := #[.val (.long q1), .second, .val (.long q2), .second, .val (.int p3), .val (.int p4), .val (.int p5), .val (.ref ba), .val (.ref ca), .val (.int (Int32.ofNat j)), .val (.int ((XT.ushr p5 (8 : Int32)) &&& (7 : Int32))), .val (.int (Int32.ofNat s1)), .val (.int (Int32.ofNat e1)), .val (.int (Int32.ofNat s2)), .val (.int (Int32.ofNat e2)), .val (.long (own_mix (own_p bs s1 (e1 - s1)))), .second, .val (.long (own_mix (own_p bs s2 (e2 - s2)))), .second, .val (.long (own_mix (own_p cs15 s1 (e1 - s1)))), .second, .val (.long (own_p bs s1 (e1 - s1))), .second, .val (.long (own_p bs s2 (e2 - s2))), .second, .val (.long (own_p cs15 s1 (e1 - s1))), .second, .val (.int (1 : Int32)), .unset]) b0_231_237 rfl ?_
      refine o_ifY (pc' := 244) d0_237 (by decide) (by decide) (fun q => hc224_26 ((own_mx _ _).mpr q) : ¬ (XT.cmpL (own_p bs s1 (e1 - s1)) (own_p cs15 s1 (e1 - s1))) = 0) ?_
      refine o_blk (pc' := 245) (st' := [(.int (0 : Int32)), (.int (0 : Int32))]) (ls' := #[.val (.long q1), .second, .val (.long q2), .second, .val (.int p3), .val (.int p4), .val (.int p5), .val (.ref ba), .val (.ref ca), .val (.int (Int32.ofNat j)), .val (.int ((XT.ushr p5 (8 : Int32)) &&& (7 : Int32))), .val (.int (Int32.ofNat s1)), .val (.int (Int32.ofNat e1)), .val (.int (Int32.ofNat s2)), .val (.int (Int32.ofNat e2)), .val (.long (own_mix (own_p bs s1 (e1 - s1)))), .second, .val (.long (own_mix (own_p bs s2 (e2 - s2)))), .second, .val (.long (own_mix (own_p cs15 s1 (e1 - s1)))), .second, .val (.long (own_p bs s1 (e1 - s1))), .second, .val (.long (own_p bs s2 (e2 - s2))), .second, .val (.long (own_p cs15 s1 (e1 - s1))), .second, .val (.int (1 : Int32)), .unset]) b0_244_245 rfl ?_
      refine o_icN (pc' := 248) d0_245 rfl (rfl : (0 : Int32) = (0 : Int32)) ?_
      refine o_blk (pc' := 249) (st' := [(.int (1 : Int32))]) (ls' := #[.val (.long q1), .second, .val (.long q2), .second, .val (.int p3), .val (.int p4), .val (.int p5), .val (.ref ba), .val (.ref ca), .val (.int (Int32.ofNat j)), .val (.int ((XT.ushr p5 (8 : Int32)) &&& (7 : Int32))), .val (.int (Int32.ofNat s1)), .val (.int (Int32.ofNat e1)), .val (.int (Int32.ofNat s2)), .val (.int (Int32.ofNat e2)), .val (.long (own_mix (own_p bs s1 (e1 - s1)))), .second, .val (.long (own_mix (own_p bs s2 (e2 - s2)))), .second, .val (.long (own_mix (own_p cs15 s1 (e1 - s1)))), .second, .val (.long (own_p bs s1 (e1 - s1))), .second, .val (.long (own_p bs s2 (e2 - s2))), .second, .val (.long (own_p cs15 s1 (e1 - s1))), .second, .val (.int (1 : Int32)), .unset]) b0_248_249 rfl ?_
      refine o_goto (pc' := 253) d0_249 (by decide) (by decide) ?_
      refine o_blk (pc' := 255) (st' := []) (ls' := #[.val (.long q1), .second, .val (.long q2), .second, .val (.int p3), .val (.int p4), .val (.int p5), .val (.ref ba), .val (.ref ca), .val (.int (Int32.ofNat j)), .val (.int ((XT.ushr p5 (8 : Int32)) &&& (7 : Int32))), .val (.int (Int32.ofNat s1)), .val (.int (Int32.ofNat e1)), .val (.int (Int32.ofNat s2)), .val (.int (Int32.ofNat e2)), .val (.long (own_mix (own_p bs s1 (e1 - s1)))), .second, .val (.long (own_mix (own_p bs s2 (e2 - s2)))), .second, .val (.long (own_mix (own_p cs15 s1 (e1 - s1)))), .second, .val (.long (own_p bs s1 (e1 - s1))), .second, .val (.long (own_p bs s2 (e2 - s2))), .second, .val (.long (own_p cs15 s1 (e1 - s1))), .second, .val (.int (1 : Int32)), .val (.int (1 : Int32))]) b0_253_255 rfl ?_
      refine o_blk (pc' := 257) (st' := [(.int (1 : Int32))]) (ls' := #[.val (.long q1), .second, .val (.long q2), .second, .val (.int p3), .val (.int p4), .val (.int p5), .val (.ref ba), .val (.ref ca), .val (.int (Int32.ofNat j)), .val (.int ((XT.ushr p5 (8 : Int32)) &&& (7 : Int32))), .val (.int (Int32.ofNat s1)), .val (.int (Int32.ofNat e1)), .val (.int (Int32.ofNat s2)), .val (.int (Int32.ofNat e2)), .val (.long (own_mix (own_p bs s1 (e1 - s1)))), .second, .val (.long (own_mix (own_p bs s2 (e2 - s2)))), .second, .val (.long (own_mix (own_p cs15 s1 (e1 - s1)))), .second, .val (.long (own_p bs s1 (e1 - s1))), .second, .val (.long (own_p bs s2 (e2 - s2))), .second, .val (.long (own_p cs15 s1 (e1 - s1))), .second, .val (.int (1 : Int32)), .val (.int (1 : Int32))]) b0_255_257 rfl ?_
      refine o_ifN (pc' := 260) d0_257 rfl (by decide : ¬ (1 : Int32) = 0) ?_
      refine o_blk (pc' := 262) (st' := [(.int (1 : Int32))]) (ls' := #[.val (.long q1), .second, .val (.long q2), .second, .val (.int p3), .val (.int p4), .val (.int p5), .val (.ref ba), .val (.ref ca), .val (.int (Int32.ofNat j)), .val (.int ((XT.ushr p5 (8 : Int32)) &&& (7 : Int32))), .val (.int (Int32.ofNat s1)), .val (.int (Int32.ofNat e1)), .val (.int (Int32.ofNat s2)), .val (.int (Int32.ofNat e2)), .val (.long (own_mix (own_p bs s1 (e1 - s1)))), .second, .val (.long (own_mix (own_p bs s2 (e2 - s2)))), .second, .val (.long (own_mix (own_p cs15 s1 (e1 - s1)))), .second, .val (.long (own_p bs s1 (e1 - s1))), .second, .val (.long (own_p bs s2 (e2 - s2))), .second, .val (.long (own_p cs15 s1 (e1 - s1))), .second, .val (.int (1 : Int32)), .val (.int (1 : Int32))]) b0_260_262 rfl ?_
      refine o_ifN (pc' := 265) d0_262 rfl (by decide : ¬ (1 : Int32) = 0) ?_
      refine o_blk (pc' := 266) (st' := [(.int (1 : Int32))]) (ls' := #[.val (.long q1), .second, .val (.long q2), .second, .val (.int p3), .val (.int p4), .val (.int p5), .val (.ref ba), .val (.ref ca), .val (.int (Int32.ofNat j)), .val (.int ((XT.ushr p5 (8 : Int32)) &&& (7 : Int32))), .val (.int (Int32.ofNat s1)), .val (.int (Int32.ofNat e1)), .val (.int (Int32.ofNat s2)), .val (.int (Int32.ofNat e2)), .val (.long (own_mix (own_p bs s1 (e1 - s1)))), .second, .val (.long (own_mix (own_p bs s2 (e2 - s2)))), .second, .val (.long (own_mix (own_p cs15 s1 (e1 - s1)))), .second, .val (.long (own_p bs s1 (e1 - s1))), .second, .val (.long (own_p bs s2 (e2 - s2))), .second, .val (.long (own_p cs15 s1 (e1 - s1))), .second, .val (.int (1 : Int32)), .val (.int (1 : Int32))]) b0_265_266 rfl ?_
      refine o_goto (pc' := 270) d0_266 (by decide) (by decide) ?_
      exact o_retZ (w := 0) d0_270 (by decide) (by decide) rfl (by decide) rfl
    ·
      refine o_blk (pc' := 228) (st' := [(.int (1 : Int32))]) (ls' := #[.val (.long q1), .second, .val (.long q2), .second, .val (.int p3), .val (.int p4), .val (.int p5), .val (.ref ba), .val (.ref ca), .val (.int (Int32.ofNat j)), .val (.int ((XT.ushr p5 (8 : Int32)) &&& (7 : Int32))), .val (.int (Int32.ofNat s1)), .val (.int (Int32.ofNat e1)), .val (.int (Int32.ofNat s2)), .val (.int (Int32.ofNat e2)), .val (.long (own_mix (own_p bs s1 (e1 - s1)))), .second, .val (.long (own_mix (own_p bs s2 (e2 - s2)))), .second, .val (.long (own_mix (own_p cs15 s1 (e1 - s1)))), .second, .val (.long (own_p bs s1 (e1 - s1))), .second, .val (.long (own_p bs s2 (e2 - s2))), .second, .val (.long (own_p cs15 s1 (e1 - s1))), .second, .val (.int (1 : Int32)), .unset]) b0_227_228 rfl ?_
      refine o_goto (pc' := 232) d0_228 (by decide) (by decide) ?_
      refine o_blk (pc' := 237) (st' := [(.int (XT.cmpL (own_p bs s1 (e1 - s1)) (own_p cs15 s1 (e1 - s1)))), (.int (1 : Int32))]) (ls' := #[.val (.long q1), .second, .val (.long q2), .second, .val (.int p3), .val (.int p4), .val (.int p5), .val (.ref ba), .val (.ref ca), .val (.int (Int32.ofNat j)), .val (.int ((XT.ushr p5 (8 : Int32)) &&& (7 : Int32))), .val (.int (Int32.ofNat s1)), .val (.int (Int32.ofNat e1)), .val (.int (Int32.ofNat s2)), .val (.int (Int32.ofNat e2)), .val (.long (own_mix (own_p bs s1 (e1 - s1)))), .second, .val (.long (own_mix (own_p bs s2 (e2 - s2)))), .second, .val (.long (own_mix (own_p cs15 s1 (e1 - s1)))), .second, .val (.long (own_p bs s1 (e1 - s1))), .second, .val (.long (own_p bs s2 (e2 - s2))), .second, .val (.long (own_p cs15 s1 (e1 - s1))), .second, .val (.int (1 : Int32)), .unset]) b0_232_237 rfl ?_
      refine o_ifN (pc' := 240) d0_237 rfl ((own_mx _ _).mp hc224_26 : (XT.cmpL (own_p bs s1 (e1 - s1)) (own_p cs15 s1 (e1 - s1))) = 0) ?_
      refine o_blk (pc' := 241) (st' := [(.int (1 : Int32)), (.int (1 : Int32))]) (ls' := #[.val (.long q1), .second, .val (.long q2), .second, .val (.int p3), .val (.int p4), .val (.int p5), .val (.ref ba), .val (.ref ca), .val (.int (Int32.ofNat j)), .val (.int ((XT.ushr p5 (8 : Int32)) &&& (7 : Int32))), .val (.int (Int32.ofNat s1)), .val (.int (Int32.ofNat e1)), .val (.int (Int32.ofNat s2)), .val (.int (Int32.ofNat e2)), .val (.long (own_mix (own_p bs s1 (e1 - s1)))), .second, .val (.long (own_mix (own_p bs s2 (e2 - s2)))), .second, .val (.long (own_mix (own_p cs15 s1 (e1 - s1)))), .second, .val (.long (own_p bs s1 (e1 - s1))), .second, .val (.long (own_p bs s2 (e2 - s2))), .second, .val (.long (own_p cs15 s1 (e1 - s1))), .second, .val (.int (1 : Int32)), .unset]) b0_240_241 rfl ?_
      refine o_goto (pc' := 245) d0_241 (by decide) (by decide) ?_
      refine o_icN (pc' := 248) d0_245 rfl (rfl : (1 : Int32) = (1 : Int32)) ?_
      refine o_blk (pc' := 249) (st' := [(.int (1 : Int32))]) (ls' := #[.val (.long q1), .second, .val (.long q2), .second, .val (.int p3), .val (.int p4), .val (.int p5), .val (.ref ba), .val (.ref ca), .val (.int (Int32.ofNat j)), .val (.int ((XT.ushr p5 (8 : Int32)) &&& (7 : Int32))), .val (.int (Int32.ofNat s1)), .val (.int (Int32.ofNat e1)), .val (.int (Int32.ofNat s2)), .val (.int (Int32.ofNat e2)), .val (.long (own_mix (own_p bs s1 (e1 - s1)))), .second, .val (.long (own_mix (own_p bs s2 (e2 - s2)))), .second, .val (.long (own_mix (own_p cs15 s1 (e1 - s1)))), .second, .val (.long (own_p bs s1 (e1 - s1))), .second, .val (.long (own_p bs s2 (e2 - s2))), .second, .val (.long (own_p cs15 s1 (e1 - s1))), .second, .val (.int (1 : Int32)), .unset]) b0_248_249 rfl ?_
      refine o_goto (pc' := 253) d0_249 (by decide) (by decide) ?_
      refine o_blk (pc' := 255) (st' := []) (ls' := #[.val (.long q1), .second, .val (.long q2), .second, .val (.int p3), .val (.int p4), .val (.int p5), .val (.ref ba), .val (.ref ca), .val (.int (Int32.ofNat j)), .val (.int ((XT.ushr p5 (8 : Int32)) &&& (7 : Int32))), .val (.int (Int32.ofNat s1)), .val (.int (Int32.ofNat e1)), .val (.int (Int32.ofNat s2)), .val (.int (Int32.ofNat e2)), .val (.long (own_mix (own_p bs s1 (e1 - s1)))), .second, .val (.long (own_mix (own_p bs s2 (e2 - s2)))), .second, .val (.long (own_mix (own_p cs15 s1 (e1 - s1)))), .second, .val (.long (own_p bs s1 (e1 - s1))), .second, .val (.long (own_p bs s2 (e2 - s2))), .second, .val (.long (own_p cs15 s1 (e1 - s1))), .second, .val (.int (1 : Int32)), .val (.int (1 : Int32))]) b0_253_255 rfl ?_
      refine o_blk (pc' := 257) (st' := [(.int (1 : Int32))]) (ls' := #[.val (.long q1), .second, .val (.long q2), .second, .val (.int p3), .val (.int p4), .val (.int p5), .val (.ref ba), .val (.ref ca), .val (.int (Int32.ofNat j)), .val (.int ((XT.ushr p5 (8 : Int32)) &&& (7 : Int32))), .val (.int (Int32.ofNat s1)), .val (.int (Int32.ofNat e1)), .val (.int (Int32.ofNat s2)), .val (.int (Int32.ofNat e2)), .val (.long (own_mix (own_p bs s1 (e1 - s1)))), .second, .val (.long (own_mix (own_p bs s2 (e2 - s2)))), .second, .val (.long (own_mix (own_p cs15 s1 (e1 - s1)))), .second, .val (.long (own_p bs s1 (e1 - s1))), .second, .val (.long (own_p bs s2 (e2 - s2))), .second, .val (.long (own_p cs15 s1 (e1 - s1))), .second, .val (.int (1 : Int32)), .val (.int (1 : Int32))]) b0_255_257 rfl ?_
      refine o_ifN (pc' := 260) d0_257 rfl (by decide : ¬ (1 : Int32) = 0) ?_
      refine o_blk (pc' := 262) (st' := [(.int (1 : Int32))]) (ls' := #[.val (.long q1), .second, .val (.long q2), .second, .val (.int p3), .val (.int p4), .val (.int p5), .val (.ref ba), .val (.ref ca), .val (.int (Int32.ofNat j)), .val (.int ((XT.ushr p5 (8 : Int32)) &&& (7 : Int32))), .val (.int (Int32.ofNat s1)), .val (.int (Int32.ofNat e1)), .val (.int (Int32.ofNat s2)), .val (.int (Int32.ofNat e2)), .val (.long (own_mix (own_p bs s1 (e1 - s1)))), .second, .val (.long (own_mix (own_p bs s2 (e2 - s2)))), .second, .val (.long (own_mix (own_p cs15 s1 (e1 - s1)))), .second, .val (.long (own_p bs s1 (e1 - s1))), .second, .val (.long (own_p bs s2 (e2 - s2))), .second, .val (.long (own_p cs15 s1 (e1 - s1))), .second, .val (.int (1 : Int32)), .val (.int (1 : Int32))]) b0_260_262 rfl ?_
      refine o_ifN (pc' := 265) d0_262 rfl (by decide : ¬ (1 : Int32) = 0) ?_
      refine o_blk (pc' := 266) (st' := [(.int (1 : Int32))]) (ls' := #[.val (.long q1), .second, .val (.long q2), .second, .val (.int p3), .val (.int p4), .val (.int p5), .val (.ref ba), .val (.ref ca), .val (.int (Int32.ofNat j)), .val (.int ((XT.ushr p5 (8 : Int32)) &&& (7 : Int32))), .val (.int (Int32.ofNat s1)), .val (.int (Int32.ofNat e1)), .val (.int (Int32.ofNat s2)), .val (.int (Int32.ofNat e2)), .val (.long (own_mix (own_p bs s1 (e1 - s1)))), .second, .val (.long (own_mix (own_p bs s2 (e2 - s2)))), .second, .val (.long (own_mix (own_p cs15 s1 (e1 - s1)))), .second, .val (.long (own_p bs s1 (e1 - s1))), .second, .val (.long (own_p bs s2 (e2 - s2))), .second, .val (.long (own_p cs15 s1 (e1 - s1))), .second, .val (.int (1 : Int32)), .val (.int (1 : Int32))]) b0_265_266 rfl ?_
      refine o_goto (pc' := 270) d0_266 (by decide) (by decide) ?_
      exact o_retZ (w := 0) d0_270 (by decide) (by decide) rfl (by decide) rfl
set_option maxRecDepth 65536 in
set_option maxHeartbeats 40000000 in
theorem comes_1 {Post : Tables → Env → Array Value → State → Outcome → State → Prop} (hpost : ∀ tb e args s v u, (limb_1_1.after args s (.returned v) u = true ∧ limb_1_2.after args s (.returned v) u = true ∧ True) → FrameEnd s (.returned v) u (Jvm.fieldLocs frame_1_writes args s ++ Jvm.arrayLocs frame_1_arrays args s ++ Jvm.staticLocs frame_1_statics s) 16 128 → Post tb e args s (.returned v) u) :
    ArmFor flags0 classFile x code maxLocals ret World_1 tables_1 room_1 Calls_1 rest_1 Pre_1 Post := by
  intro l hfl _ _ p e ha hc hk s m args below hf hA hF happ hP
  obtain ⟨hcalls, hrest, hpre⟩ := hP
  obtain ⟨-, -, -, hnamed, -, -, -, hat⟩ := (Spec.applies_iff hf).mp happ
  obtain ⟨hg, hn⟩ := and_e (Cond.before_iff.mp (show (Jvm.Cond.and given_1 narrow_1).before args s = true from hpre))
  obtain ⟨g0, hg⟩ := and_e hg
  obtain ⟨k0, hg⟩ := and_e hg
  obtain ⟨k1, hg⟩ := and_e hg
  obtain ⟨k2, hg⟩ := and_e hg
  obtain ⟨k3, hg⟩ := and_e hg
  have k4 := hg
  obtain ⟨w0, w1, w2, w3, w4, rfl⟩ : ∃ w0 w1 w2 w3 w4 : Value, args = #[w0, w1, w2, w3, w4] := by
    have hs : args.size = 5 := by simpa [Cond.value, given_1] using g0
    obtain ⟨L⟩ := args
    match L, hs with
    | [w0, w1, w2, w3, w4], _ => exact ⟨w0, w1, w2, w3, w4, rfl⟩
  have hw := fun d (hd : d ∈ tables_1) => atoms_spec (ws := Jvm.Cond.code x code maxLocals ret :: tables_1) hat d (List.mem_cons_of_mem _ hd)
  have hfit : Fit s := fun {y c} hc i hi => by
    obtain ⟨ha, rfl⟩ := Array.getElem?_eq_some_iff.mp hc
    have q := List.all_eq_true.mp ((Array.all_eq_true_iff_forall_mem.mp hF) _ (Array.getElem_mem ha)) i (List.mem_range.mpr hi)
    simpa [Array.getElem?_eq_getElem hi] using q
  obtain ⟨i0, e0⟩ := isL_v k0
  obtain rfl : w0 = (.long i0) := Option.some.inj e0
  obtain ⟨i1, e1⟩ := isL_v k1
  obtain rfl : w1 = (.long i1) := Option.some.inj e1
  obtain ⟨i2, e2⟩ := is_v k2
  obtain rfl : w2 = (.int i2) := Option.some.inj e2
  obtain ⟨i3, e3⟩ := is_v k3
  obtain rfl : w3 = (.int i3) := Option.some.inj e3
  obtain ⟨i4, e4⟩ := is_v k4
  obtain rfl : w4 = (.int i4) := Option.some.inj e4
  obtain ⟨n, o, h1, h2, h3, _, L, rfl, ⟨⟨rfl, _⟩, N⟩, hq⟩ := rm_law l s _ hw i0 i1 i2 i3 i4 s.heap ⟨Nat.le_refl _, fun _ _ q => q⟩ tables_1 p e ha hc hk s m _ below hf ((Spec.applies_iff_loose hf).mp happ).1 ⟨rfl, State.Warmed39.refl s, rfl⟩ trivial
  refine ⟨n, _, h1, h2, h3, hpost _ _ _ _ _ _ ⟨Cond.after_iff.mpr rfl, Cond.after_iff.mpr (eq_i res_at (Term.int_eval (1)) rfl), trivial⟩ ⟨hq.1, hq.2.1, (hq.2.2.sift fun y hy => Or.inr (N y hy)).mono (by decide) (by decide)⟩⟩
theorem main_1_1 : Claimed_1_1 := comes_1 fun _ _ _ _ _ _ h hF => ⟨h.1, hF⟩
theorem main_1_2 : Claimed_1_2 := comes_1 fun _ _ _ _ _ _ h hF => ⟨h.2.1, hF⟩
end Jvm.Pilot.@@N@@
namespace Jvm.Pilot.@@N@@
open Jvm Jvm.ClassFile Sem Op Lib Jvm.Free Jvm.Stand Jvm.Pilot.@@N@@.Jvm.D
/-! MADE BY PROGRAM (witnessworld.py) out of the Statement's table words and the real class files: 10 classes; the members and pool entries that the words name. The judged class is class 1, her method 3. -/
namespace start1
open Jvm.ClassFile
def u (s : String) : CpInfo := .utf8 (stringToUtf16 s)
/-- a pool by its gaps: so many unusable entries, then the entry; so many at the end -/
def gap : Nat → List CpInfo → List CpInfo
  | 0, r => r
  | n + 1, r => .unusable :: gap n r
def poolList (es : List (Nat × CpInfo)) (last : Nat) : List CpInfo := es.foldr (fun e r => gap e.1 (e.2 :: r)) (gap last [])
def pool (es : List (Nat × CpInfo)) (last : Nat) : Array CpInfo := ⟨poolList es last⟩
def fileOf (pool : Array CpInfo) (this : Nat) (attrs : Array Attribute := #[]) (ms : Array MethodInfo := #[]) (fl : Nat := 33) (sup : Nat := 0) (ifs : Array Nat := #[]) (fds : Array FieldInfo := #[]) : ClassFile where
  minorVersion := 0
  majorVersion := 65
  constantPool := pool
  accessFlags := fl
  thisClass := this
  superClass := sup
  interfaces := ifs
  fields := fds
  methods := ms
  attributes := attrs
def plain (name : String) (sup : Option ClassId) : Class where
  name := name
  kind := .ordinary
  loader := none
  accessFlags := 33
  super := sup
  interfaces := #[]
  cf := none
  fields := #[]
  methods := #[]
  instanceTypes := #[]
  staticTypes := #[]
  resolved := #[]
  callSites := []
  init := .initialized
  statics := none
  mirror := none

def pool0 : Array CpInfo := pool [(5, u "<init>"), (0, u "()V"), (1, .class_ 10), (1, u "java/lang/Object")] 113

def k0m0 : Method := { name := "<init>", desc := "()V", sig := { parameters := [], returnType := none }, accessFlags := 1, code := none }
/-- java/lang/Object -/
def k0 : Class := { plain "java/lang/Object" none with
  accessFlags := 33
  interfaces := #[]
  cf := some (fileOf pool0 8 #[] #[{ accessFlags := 1, nameIndex := 5, descriptorIndex := 6, attributes := #[] }] 33 0 #[] #[])
  fields := #[]
  methods := #[k0m0]
  instanceTypes := #[]
  staticTypes := #[]
  resolved := Array.replicate 124 none
  statics := none }

def pool1 : Array CpInfo := pool [(2, .class_ 4), (1, u "java/lang/Object"), (0, u "<init>"), (0, u "()V"), (0, .long 31), (1, .methodref 10 11), (0, .class_ 12), (0, .nameAndType 13 14), (0, u "com/example/plain_pool/plainpool/format/TopicDocidsHashPinLaw"), (0, u "bytesOf"), (0, u "(JJ)[B"), (0, .integer 2147483647), (0, .methodref 17 18), (0, .class_ 19), (0, .nameAndType 20 21), (0, u "java/lang/Math"), (0, u "min"), (0, u "(II)I"), (0, .methodref 23 24), (0, .class_ 25), (0, .nameAndType 26 27), (0, u "com/example/plain_pool/plainpool/format/TopicDocids"), (0, u "hash"), (0, u "([BII)J"), (0, .methodref 10 29), (0, .nameAndType 30 27), (0, u "poly"), (3, u "law"), (0, u "(JJIII)Z")] 4

def k1m0 : Method := { name := "<init>", desc := "()V", sig := { parameters := [], returnType := none }, accessFlags := 1, code := none }
def k1c1 : Code := { maxStack := 5, maxLocals := 5, code := method_2_code, exceptionTable := #[], attributes := #[] }
def k1m1 : Method := { name := "bytesOf", desc := "(JJ)[B", sig := { parameters := [.long, .long], returnType := some (.array .byte) }, accessFlags := 10, code := some k1c1 }
def k1c2 : Code := { maxStack := 4, maxLocals := 6, code := method_3_code, exceptionTable := #[], attributes := #[] }
def k1m2 : Method := { name := "poly", desc := "([BII)J", sig := { parameters := [(.array .byte), .int, .int], returnType := some .long }, accessFlags := 10, code := some k1c2 }
def k1c3 : Code := { maxStack := 5, maxLocals := 29, code := code, exceptionTable := #[], attributes := #[] }
def k1m3 : Method := { name := "law", desc := "(JJIII)Z", sig := { parameters := [.long, .long, .int, .int, .int], returnType := some .boolean }, accessFlags := 9, code := some k1c3 }
/-- com/example/plain_pool/plainpool/format/TopicDocidsHashPinLaw -/
def k1 : Class := { plain "com/example/plain_pool/plainpool/format/TopicDocidsHashPinLaw" (some 0) with
  accessFlags := 49
  interfaces := #[]
  cf := some (fileOf pool1 10 #[] #[{ accessFlags := 1, nameIndex := 5, descriptorIndex := 6, attributes := #[] }, { accessFlags := 10, nameIndex := 13, descriptorIndex := 14, attributes := #[] }, { accessFlags := 10, nameIndex := 30, descriptorIndex := 27, attributes := #[] }, { accessFlags := 9, nameIndex := 34, descriptorIndex := 35, attributes := #[] }] 49 2 #[] #[])
  fields := #[]
  methods := #[k1m0, k1m1, k1m2, k1m3]
  instanceTypes := #[]
  staticTypes := #[]
  resolved := Array.replicate 40 none
  statics := none }

def pool2 : Array CpInfo := pool [(1, .class_ 2), (0, u "java/lang/Math"), (1, .class_ 6), (1, u "java/lang/Object"), (0, u "<init>"), (0, u "()V"), (89, .class_ 100), (1, u "java/lang/Math$RandomNumberGeneratorHolder"), (71, u "negativeZeroFloatBits"), (0, u "J"), (2, u "negativeZeroDoubleBits"), (24, u "min"), (43, u "$assertionsDisabled"), (0, u "Z"), (88, u "(II)I"), (2, u "twoToTheDoubleScaleDown"), (0, u "D"), (4, u "twoToTheDoubleScaleUp"), (9, u "E"), (3, u "PI"), (2, u "TAU"), (2, u "DEGREES_TO_RADIANS"), (0, u "RADIANS_TO_DEGREES")] 94

def k2m0 : Method := { name := "<init>", desc := "()V", sig := { parameters := [], returnType := none }, accessFlags := 2, code := none }
def k2c1 : Code := { maxStack := 2, maxLocals := 2, code := jdk_29_method_69_code, exceptionTable := #[], attributes := #[] }
def k2m1 : Method := { name := "min", desc := "(II)I", sig := { parameters := [.int, .int], returnType := some .int }, accessFlags := 9, code := some k2c1 }
/-- java/lang/Math -/
def k2 : Class := { plain "java/lang/Math" (some 0) with
  accessFlags := 49
  interfaces := #[]
  cf := some (fileOf pool2 1 #[.nestMembers #[98]] #[{ accessFlags := 2, nameIndex := 7, descriptorIndex := 8, attributes := #[] }, { accessFlags := 9, nameIndex := 201, descriptorIndex := 335, attributes := #[] }] 49 4 #[] #[{ accessFlags := 25, nameIndex := 354, descriptorIndex := 339, attributes := #[] }, { accessFlags := 25, nameIndex := 358, descriptorIndex := 339, attributes := #[] }, { accessFlags := 25, nameIndex := 361, descriptorIndex := 339, attributes := #[] }, { accessFlags := 26, nameIndex := 364, descriptorIndex := 339, attributes := #[] }, { accessFlags := 26, nameIndex := 365, descriptorIndex := 339, attributes := #[] }, { accessFlags := 26, nameIndex := 172, descriptorIndex := 173, attributes := #[] }, { accessFlags := 26, nameIndex := 176, descriptorIndex := 173, attributes := #[] }, { accessFlags := 8, nameIndex := 344, descriptorIndex := 339, attributes := #[] }, { accessFlags := 8, nameIndex := 338, descriptorIndex := 339, attributes := #[] }, { accessFlags := 4120, nameIndex := 245, descriptorIndex := 246, attributes := #[] }])
  fields := #[{ name := "E", type := .double, accessFlags := 25, slot := 0, constantValue := 0 }, { name := "PI", type := .double, accessFlags := 25, slot := 1, constantValue := 0 }, { name := "TAU", type := .double, accessFlags := 25, slot := 2, constantValue := 0 }, { name := "DEGREES_TO_RADIANS", type := .double, accessFlags := 26, slot := 3, constantValue := 0 }, { name := "RADIANS_TO_DEGREES", type := .double, accessFlags := 26, slot := 4, constantValue := 0 }, { name := "negativeZeroFloatBits", type := .long, accessFlags := 26, slot := 5, constantValue := 0 }, { name := "negativeZeroDoubleBits", type := .long, accessFlags := 26, slot := 6, constantValue := 0 }, { name := "twoToTheDoubleScaleUp", type := .double, accessFlags := 8, slot := 7, constantValue := 0 }, { name := "twoToTheDoubleScaleDown", type := .double, accessFlags := 8, slot := 8, constantValue := 0 }, { name := "$assertionsDisabled", type := .boolean, accessFlags := 4120, slot := 9, constantValue := 0 }]
  methods := #[k2m0, k2m1]
  instanceTypes := #[]
  staticTypes := #[.double, .double, .double, .double, .double, .long, .long, .double, .double, .boolean]
  resolved := Array.replicate 460 none
  statics := none }

def pool3 : Array CpInfo := pool [(1, .class_ 2), (0, u "com/example/plain_pool/plainpool/format/TopicDocids"), (1, .class_ 6), (1, u "java/lang/Object"), (0, u "<init>"), (0, u "()V"), (5, u "locations"), (0, u "Lcom/example/plain_pool/plainpool/format/PagedLongs;"), (4, u "pages"), (0, u "[[B"), (3, u "pageFill"), (0, u "I"), (2, u "base"), (0, u "Lcom/example/plain_pool/plainpool/format/TopicDocids;"), (2, u "baseTopicCount"), (2, u "baseCount"), (2, u "listedFromBase"), (0, u "[J"), (0, .class_ 42), (0, u "com/example/plain_pool/plainpool/format/TopicDocids$Topic"), (2, u "topics"), (0, u "[Lcom/example/plain_pool/plainpool/format/TopicDocids$Topic;"), (2, u "topicSlots"), (9, u "isBase"), (0, u "Z"), (2, u "topicCount"), (79, u "hash"), (0, u "([BII)J"), (68, u "pageCount"), (19, .long 31), (1, .long 18397679294719823053), (1, .long 14181476777654086739), (1, u "PAGE_BITS"), (2, u "PAGE_BYTES"), (0, u "LENGTH_BITS"), (1, u "LENGTH_MASK"), (0, u "J"), (0, u "MAX_DOCID_BYTES"), (0, u "FIRST_SLOTS")] 33

def k3m0 : Method := { name := "<init>", desc := "()V", sig := { parameters := [], returnType := none }, accessFlags := 1, code := none }
def k3c1 : Code := { maxStack := 5, maxLocals := 6, code := prog_55_method_26_code, exceptionTable := #[], attributes := #[] }
def k3m1 : Method := { name := "hash", desc := "([BII)J", sig := { parameters := [(.array .byte), .int, .int], returnType := some .long }, accessFlags := 8, code := some k3c1 }
/-- com/example/plain_pool/plainpool/format/TopicDocids -/
def k3 : Class := { plain "com/example/plain_pool/plainpool/format/TopicDocids" (some 0) with
  accessFlags := 49
  interfaces := #[]
  cf := some (fileOf pool3 1 #[.nestMembers #[41]] #[{ accessFlags := 1, nameIndex := 7, descriptorIndex := 8, attributes := #[] }, { accessFlags := 8, nameIndex := 143, descriptorIndex := 144, attributes := #[] }] 49 4 #[] #[{ accessFlags := 26, nameIndex := 239, descriptorIndex := 26, attributes := #[] }, { accessFlags := 24, nameIndex := 242, descriptorIndex := 26, attributes := #[] }, { accessFlags := 26, nameIndex := 243, descriptorIndex := 26, attributes := #[] }, { accessFlags := 26, nameIndex := 245, descriptorIndex := 246, attributes := #[] }, { accessFlags := 24, nameIndex := 247, descriptorIndex := 26, attributes := #[] }, { accessFlags := 26, nameIndex := 248, descriptorIndex := 26, attributes := #[] }, { accessFlags := 18, nameIndex := 29, descriptorIndex := 30, attributes := #[] }, { accessFlags := 18, nameIndex := 33, descriptorIndex := 26, attributes := #[] }, { accessFlags := 18, nameIndex := 36, descriptorIndex := 26, attributes := #[] }, { accessFlags := 18, nameIndex := 39, descriptorIndex := 40, attributes := #[] }, { accessFlags := 2, nameIndex := 59, descriptorIndex := 60, attributes := #[] }, { accessFlags := 2, nameIndex := 45, descriptorIndex := 46, attributes := #[] }, { accessFlags := 2, nameIndex := 63, descriptorIndex := 26, attributes := #[] }, { accessFlags := 2, nameIndex := 49, descriptorIndex := 40, attributes := #[] }, { accessFlags := 18, nameIndex := 14, descriptorIndex := 15, attributes := #[] }, { accessFlags := 2, nameIndex := 20, descriptorIndex := 21, attributes := #[] }, { accessFlags := 2, nameIndex := 213, descriptorIndex := 26, attributes := #[] }, { accessFlags := 2, nameIndex := 25, descriptorIndex := 26, attributes := #[] }])
  fields := #[{ name := "PAGE_BITS", type := .int, accessFlags := 26, slot := 0, constantValue := 0 }, { name := "PAGE_BYTES", type := .int, accessFlags := 24, slot := 1, constantValue := 0 }, { name := "LENGTH_BITS", type := .int, accessFlags := 26, slot := 2, constantValue := 0 }, { name := "LENGTH_MASK", type := .long, accessFlags := 26, slot := 3, constantValue := 0 }, { name := "MAX_DOCID_BYTES", type := .int, accessFlags := 24, slot := 4, constantValue := 0 }, { name := "FIRST_SLOTS", type := .int, accessFlags := 26, slot := 5, constantValue := 0 }, { name := "base", type := (.object "com/example/plain_pool/plainpool/format/TopicDocids"), accessFlags := 18, slot := 0, constantValue := 0 }, { name := "baseTopicCount", type := .int, accessFlags := 18, slot := 1, constantValue := 0 }, { name := "baseCount", type := .int, accessFlags := 18, slot := 2, constantValue := 0 }, { name := "listedFromBase", type := (.array .long), accessFlags := 18, slot := 3, constantValue := 0 }, { name := "isBase", type := .boolean, accessFlags := 2, slot := 4, constantValue := 0 }, { name := "topics", type := (.array (.object "com/example/plain_pool/plainpool/format/TopicDocids$Topic")), accessFlags := 2, slot := 5, constantValue := 0 }, { name := "topicCount", type := .int, accessFlags := 2, slot := 6, constantValue := 0 }, { name := "topicSlots", type := (.array .long), accessFlags := 2, slot := 7, constantValue := 0 }, { name := "locations", type := (.object "com/example/plain_pool/plainpool/format/PagedLongs"), accessFlags := 18, slot := 8, constantValue := 0 }, { name := "pages", type := (.array (.array .byte)), accessFlags := 2, slot := 9, constantValue := 0 }, { name := "pageCount", type := .int, accessFlags := 2, slot := 10, constantValue := 0 }, { name := "pageFill", type := .int, accessFlags := 2, slot := 11, constantValue := 0 }]
  methods := #[k3m0, k3m1]
  instanceTypes := #[(.object "com/example/plain_pool/plainpool/format/TopicDocids"), .int, .int, (.array .long), .boolean, (.array (.object "com/example/plain_pool/plainpool/format/TopicDocids$Topic")), .int, (.array .long), (.object "com/example/plain_pool/plainpool/format/PagedLongs"), (.array (.array .byte)), .int, .int]
  staticTypes := #[.int, .int, .int, .long, .int, .int]
  resolved := Array.replicate 282 none
  statics := none }

def pool4 : Array CpInfo := pool [(1, u "java/lang/Cloneable"), (0, .class_ 1), (0, u "java/lang/Object"), (0, .class_ 3)] 3

/-- java/lang/Cloneable -/
def k4 : Class := { plain "java/lang/Cloneable" (some 0) with
  accessFlags := 1537
  interfaces := #[]
  cf := some (fileOf pool4 2 #[] #[] 1537 4 #[] #[])
  fields := #[]
  methods := #[]
  instanceTypes := #[]
  staticTypes := #[]
  resolved := Array.replicate 8 none
  statics := none }

def pool5 : Array CpInfo := pool [(1, u "java/io/Serializable"), (0, .class_ 1), (0, u "java/lang/Object"), (0, .class_ 3)] 3

/-- java/io/Serializable -/
def k5 : Class := { plain "java/io/Serializable" (some 0) with
  accessFlags := 1537
  interfaces := #[]
  cf := some (fileOf pool5 2 #[] #[] 1537 4 #[] #[])
  fields := #[]
  methods := #[]
  instanceTypes := #[]
  staticTypes := #[]
  resolved := Array.replicate 8 none
  statics := none }

/-- the primitive byte -/
def k6 : Class := { plain "byte" none with kind := .primitive 'B', accessFlags := 0x411 }
/-- [B -/
def k7 : Class := { plain "[B" (some 0) with kind := .array 6 .byte, interfaces := #[4, 5], accessFlags := 1041 }

/-- the primitive int -/
def k8 : Class := { plain "int" none with kind := .primitive 'I', accessFlags := 0x411 }
/-- [I -/
def k9 : Class := { plain "[I" (some 0) with kind := .array 8 .int, interfaces := #[4, 5], accessFlags := 1041 }

def heap : Heap := #[]
def classes : Array Class := #[k0, k1, k2, k3, k4, k5, k6, k7, k8, k9]
def interned : List (Array UInt16 × Addr) := []
def slotsUsed : Nat := 0
def theMethod : MethodId := ⟨1, 3⟩
def args0 : Array Value := #[.long 5, .long 77, .int 3, .int 9, .int 1000]
def aboutOver (below : List Frame) : State where
  vm := { classes := classes, interned := interned.toArray }
  heap := heap
  slotsUsed := slotsUsed
  threads := #[{ frames := .invoking theMethod args0 :: below }]
def below0 : List Frame := [.native { method := ⟨0, 0⟩, args := #[] }]
def about1 : State := aboutOver below0
def p0 : Program := .bare "" "" ""
def e0 : Env := launch0.env 0 0 0
theorem w_frames : about1.frames = Frame.invoking theMethod args0 :: below0 := rfl
set_option maxRecDepth 65536 in
theorem w_args : argsFit about1.vm theMethod args0 = true := by decide +kernel
set_option maxRecDepth 65536 in
theorem w_heap : heapFits about1 = true := by decide +kernel
set_option maxRecDepth 65536 in
theorem w_runnable : about1.curStatus? = some .runnable := by decide +kernel
set_option maxRecDepth 65536 in
theorem w_alone : about1.alone = true := by decide +kernel
set_option maxRecDepth 65536 in
theorem w_named : about1.methodNamed? x = some theMethod := by decide +kernel
set_option maxRecDepth 65536 in
theorem w_hears : about1.hears theMethod below0 = true := by decide +kernel
set_option maxRecDepth 65536 in
theorem w_ripe : about1.ripe theMethod args0 below0 = true := by decide +kernel
theorem w_running : about1.status = .running := rfl
set_option maxRecDepth 65536 in
theorem w_room : about1.hasRoom e0.platform room_1 = true :=
  launch0.hasRoom_least _ room_1 (by decide +kernel) (by decide +kernel) (by decide +kernel) (by decide +kernel) (by decide +kernel) (by decide +kernel)
theorem allAtoms_all (ts : List Jvm.Cond) (a : Array Jvm.Value) (st : Jvm.State) : (allAtoms ts).before a st = ts.all (fun c => c.before a st) := by
  induction ts with
  | nil => rfl
  | cons c t ih =>
    show (Jvm.Cond.and c (allAtoms t)).before a st = _
    rw [Jvm.Cond.before_and, ih, List.all_cons]
def words1 : List Jvm.Cond := Jvm.Cond.code x code maxLocals ret :: tables_1
/-- a 'code' word, met by the world's own term for the bytes: nothing is compared byte by byte -/
theorem code_word {y : MethodName} {bytes : ByteArray} {mx : Nat} {rt : Option FieldType} {a : Array Value} {s : State} {m : MethodId} {meth : Method} {c : Code} (h1 : s.methodNamed? y = some m) (h2 : s.vm.method? m = some meth) (h3 : meth.code = some c) (h4 : c.code = bytes)
    (h5 : (c.maxLocals == mx && c.exceptionTable.isEmpty && decide (c.maxStack ≤ mostOperands) && decide (meth.sig.returnType = rt) && !meth.locks && decide (parseMethodDescriptor y.desc = some meth.sig)) = true) : (Jvm.Cond.code y bytes mx rt).before a s = true := by
  simp only [Bool.and_eq_true, beq_iff_eq, Bool.not_eq_true', decide_eq_true_eq] at h5
  obtain ⟨⟨⟨⟨⟨g1, g2⟩, g3⟩, g4⟩, g5⟩, g6⟩ := h5
  simp [Cond.before, Cond.holds, Cond.value, h1, h2, h3, h4, g1, g2, g3, g4, g5, g6]
def isCode : Jvm.Cond → Bool
  | .code _ _ _ _ => true
  | _ => false
theorem all_split {L : List Jvm.Cond} {P : Jvm.Cond → Bool} (h1 : L.all (fun c => isCode c || P c) = true) (h2 : ∀ c ∈ L.filter isCode, P c = true) : L.all P = true := by
  refine List.all_eq_true.mpr fun c hc => ?_
  have h := List.all_eq_true.mp h1 c hc
  rcases Bool.eq_false_or_eq_true (isCode c) with hi | hi
  · exact h2 c (List.mem_filter.mpr ⟨hc, hi⟩)
  · simpa [hi] using h
set_option maxRecDepth 65536 in
theorem w_c0 : (Jvm.Cond.code x code maxLocals ret).before args0 about1 = true := code_word (m := ⟨1, 3⟩) (meth := k1m3) (c := k1c3) (by decide +kernel) rfl rfl rfl (by decide +kernel)
set_option maxRecDepth 65536 in
theorem w_c1 : (Jvm.Cond.code ({ cls := "com/example/plain_pool/plainpool/format/TopicDocidsHashPinLaw", name := "bytesOf", desc := "(JJ)[B" } : Jvm.MethodName) method_2_code (5 : Nat) (Option.some (Jvm.ClassFile.FieldType.array Jvm.ClassFile.FieldType.byte))).before args0 about1 = true := code_word (m := ⟨1, 1⟩) (meth := k1m1) (c := k1c1) (by decide +kernel) rfl rfl rfl (by decide +kernel)
set_option maxRecDepth 65536 in
theorem w_c2 : (Jvm.Cond.code ({ cls := "java/lang/Math", name := "min", desc := "(II)I" } : Jvm.MethodName) jdk_29_method_69_code (2 : Nat) (Option.some Jvm.ClassFile.FieldType.int)).before args0 about1 = true := code_word (m := ⟨2, 1⟩) (meth := k2m1) (c := k2c1) (by decide +kernel) rfl rfl rfl (by decide +kernel)
set_option maxRecDepth 65536 in
theorem w_c3 : (Jvm.Cond.code ({ cls := "com/example/plain_pool/plainpool/format/TopicDocids", name := "hash", desc := "([BII)J" } : Jvm.MethodName) prog_55_method_26_code (6 : Nat) (Option.some Jvm.ClassFile.FieldType.long)).before args0 about1 = true := code_word (m := ⟨3, 1⟩) (meth := k3m1) (c := k3c1) (by decide +kernel) rfl rfl rfl (by decide +kernel)
set_option maxRecDepth 65536 in
theorem w_c4 : (Jvm.Cond.code ({ cls := "com/example/plain_pool/plainpool/format/TopicDocidsHashPinLaw", name := "poly", desc := "([BII)J" } : Jvm.MethodName) method_3_code (6 : Nat) (Option.some Jvm.ClassFile.FieldType.long)).before args0 about1 = true := code_word (m := ⟨1, 2⟩) (meth := k1m2) (c := k1c2) (by decide +kernel) rfl rfl rfl (by decide +kernel)
def codes1 : List Jvm.Cond := [Jvm.Cond.code x code maxLocals ret, Jvm.Cond.code ({ cls := "com/example/plain_pool/plainpool/format/TopicDocidsHashPinLaw", name := "bytesOf", desc := "(JJ)[B" } : Jvm.MethodName) method_2_code (5 : Nat) (Option.some (Jvm.ClassFile.FieldType.array Jvm.ClassFile.FieldType.byte)), Jvm.Cond.code ({ cls := "java/lang/Math", name := "min", desc := "(II)I" } : Jvm.MethodName) jdk_29_method_69_code (2 : Nat) (Option.some Jvm.ClassFile.FieldType.int), Jvm.Cond.code ({ cls := "com/example/plain_pool/plainpool/format/TopicDocids", name := "hash", desc := "([BII)J" } : Jvm.MethodName) prog_55_method_26_code (6 : Nat) (Option.some Jvm.ClassFile.FieldType.long), Jvm.Cond.code ({ cls := "com/example/plain_pool/plainpool/format/TopicDocidsHashPinLaw", name := "poly", desc := "([BII)J" } : Jvm.MethodName) method_3_code (6 : Nat) (Option.some Jvm.ClassFile.FieldType.long)]
set_option maxRecDepth 65536 in
theorem codes_eq : words1.filter isCode = codes1 := rfl
theorem w_codes : ∀ c ∈ words1.filter isCode, c.before args0 about1 = true := by
  rw [codes_eq]
  intro c hc
  simp only [codes1, List.mem_cons, List.not_mem_nil, or_false] at hc
  rcases hc with rfl | rfl | rfl | rfl | rfl
  · exact w_c0
  · exact w_c1
  · exact w_c2
  · exact w_c3
  · exact w_c4
set_option maxRecDepth 65536 in
theorem w_t1 : words1.all (fun c => isCode c || c.before args0 about1) = true := by decide +kernel
theorem w_tables : (allAtoms (Jvm.Cond.code x code maxLocals ret :: tables_1)).before args0 about1 = true := by
  rw [allAtoms_all]
  show words1.all (fun c => c.before args0 about1) = true
  refine all_split ?_ w_codes
  rw [w_t1]
set_option maxRecDepth 65536 in
theorem w_case : (Jvm.Cond.and given_1 narrow_1).before args0 about1 = true := by decide +kernel
theorem w_applies : (headSpec (Jvm.Cond.code x code maxLocals ret :: tables_1) room_1).applies x e0.platform about1 = true :=
  (Spec.applies_iff w_frames).mpr ⟨w_running, w_runnable, w_alone, w_named, w_hears, w_ripe, w_room, w_tables⟩
theorem atStart : AtStart classFile x code maxLocals ret World_1 tables_1 room_1 Calls_1 rest_1 Pre_1 launch0 p0 e0 about1 theMethod args0 below0 :=
  ⟨lists_1, trivial, launch0.admits_env _ _ _, launch0.least_env, fairChoices_fair.cas, fairChoices_fair.clock, w_frames, w_args, w_heap, w_applies, trivial, trivial, w_case⟩
end start1
theorem witness_1 : WitnessClaimed_1 := ⟨start1.p0, start1.e0, start1.about1, start1.theMethod, start1.args0, start1.below0, start1.atStart⟩
end Jvm.Pilot.@@N@@
