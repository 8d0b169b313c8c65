import JvmDerived
import JvmDerived.Pilot.@@N@@Statement
import JvmDerived.Pilot.@@N@@Code
set_option linter.unusedVariables false
set_option linter.unusedSimpArgs false
namespace Jvm.Pilot.@@N@@
open Jvm Jvm.ClassFile Sem Op Lib Jvm.Free Jvm.Stand Jvm.LawKit Jvm.RoadKit Bundle Jvm.Pilot.@@N@@.Jvm.D
section OwnKit
variable {p : Program} {l : Launch} {e : Env} {R : Room} {s : State} {m : MethodId} {args : Array Value} {below : List Frame} {meth : Method} {c : Code} {T : State} {locs : List Loc} {cells slots : Nat}
def own_G (tb : Tables) (e : Env) (below : List Frame) (s : State) (Q : Option Value → Heap → List Loc → Prop) (k n : Nat) (A : State) : Prop :=
  ∃ u o, Steps tb e below A u ∧ u.status = .running ∧ Ended u below o ∧ ∃ v L, o = Outcome.returned v ∧ Q v u.heap L ∧ FrameEnd s o u L k n
theorem own_go {tb : Tables} {Q : Option Value → Heap → List Loc → Prop} {k n : Nat} {A B : State} (h : ∀ t, Steps tb e below B t → Steps tb e below A t) (g : own_G tb e below s Q k n B) : own_G tb e below s Q k n A := by
  obtain ⟨u, o, h1, r⟩ := g; exact ⟨u, o, h u h1, r⟩
theorem own_ret (X : Stand p l e R s m args below meth c T locs cells slots) (hx : p.tables.exec = Jvm.exec) {pc : Nat} {Ls : Array Slot} {w : Value} {t : FieldType} {i : Instr} {rest : List Value} (hret : meth.sig.returnType = some t) (hn : narrow t w = w)
    (hi : (i = .ireturn ∧ (t = .int ∨ t = .boolean ∨ t = .byte ∨ t = .char ∨ t = .short) ∧ ∃ z, w = .int z) ∨ (i = .lreturn ∧ t = .long ∧ ∃ z, w = .long z) ∨ (i = .dreturn ∧ t = .double ∧ ∃ z, w = .double z) ∨ (i = .freturn ∧ t = .float ∧ ∃ z, w = .float z) ∨ (i = .areturn ∧ t.isReference = true ∧ w.isRef = true))
    (hd : decode c.code pc = .ok (i, 1)) (hlocks : meth.locks = false) {Q : Option Value → Heap → List Loc → Prop} {k n : Nat} (hQ : Q (some w) T.heap locs) (hk : cells ≤ k) (hs : slots ≤ n) : own_G p.tables e below s Q k n (T.setTop (mkF m pc Ls (w :: rest))) := by
  obtain ⟨fs, hr, hrun, hended, hW, hsame⟩ := X.leave (v := some w) (fun h => by rw [hret] at h; cases h) hlocks
  exact ⟨_, _, retOut X hx hret hn hi hd hr, hrun, hended, _, _, rfl, hQ, ⟨_, rfl⟩, hW, hsame.mono hk hs⟩
theorem own_retV (X : Stand p l e R s m args below meth c T locs cells slots) (hx : p.tables.exec = Jvm.exec) {pc : Nat} {Ls : Array Slot} (hret : meth.sig.returnType = none)
    (hd : decode c.code pc = .ok (.return_, 1)) (hlocks : meth.locks = false) {Q : Option Value → Heap → List Loc → Prop} {k n : Nat} (hQ : Q none T.heap locs) (hk : cells ≤ k) (hs : slots ≤ n) : own_G p.tables e below s Q k n (T.setTop (mkF m pc Ls [])) := by
  obtain ⟨fs, hr, hrun, hended, hW, hsame⟩ := X.leave (v := none) (fun _ => rfl) hlocks
  exact ⟨_, _, X.returnOut hx hret hd hr, hrun, hended, _, _, rfl, hQ, ⟨_, rfl⟩, hW, hsame.mono hk hs⟩
def own_Met (l : Launch) (Z : State) (y : MethodName) (bytes : ByteArray) (maxL : Nat) (ret : Option FieldType) (ws : List Jvm.Cond) (rm : Room) (as' : Array Value) (h0 : Heap) (Q : Option Value → Heap → List Loc → Prop) : Prop :=
  MetFree l y (head1 (Jvm.Cond.code y bytes maxL ret :: ws) rm) (fun a U => a = as' ∧ Z.Warmed39 U.vm ∧ U.heap = h0) (fun _ _ _ _ _ => True) (fun _ U o U' => ∃ v L, o = .returned v ∧ Q v U'.heap L ∧ FrameEnd U o U' L rm.cells rm.slots)
theorem own_body {l : Launch} {Z : State} {y : MethodName} {bytes : ByteArray} {maxL : Nat} {ret : Option FieldType} {ws : List Jvm.Cond} {rm : Room} {as' : Array Value} {h0 : Heap} {Q : Option Value → Heap → List Loc → Prop} (hp : plainFor y = true)
    (H : ∀ (p : Program) (e : Env) (s : State) (m : MethodId) (below : List Frame) (meth : Method) (c : Code) (s₁ : State), p.tables.exec = Jvm.exec → c.code = bytes → c.maxLocals = maxL → s.vm.findClass y.cls = some m.cls → meth.name = y.name → meth.locks = false → meth.sig.returnType = ret → Z.Warmed39 s.vm → Stand p l e rm s m as' below meth c s₁ [] 0 0 → s₁.heap = h0 →
      own_G p.tables e below s Q rm.cells rm.slots (s₁.setTop (entryFrame m as' maxL))) : own_Met l Z y bytes maxL ret ws rm as' h0 Q := by
  refine MetFree.of_bodySF hp hisR ?_
  intro p e s m args below meth c s₁ Bd hml0 hP hK
  obtain ⟨rfl, hZ, hh⟩ := hP
  exact H p e s m below meth c s₁ Bd.exec Bd.bytes hml0 (findClass_of_methodNamed Bd.named) (name_of_methodNamed Bd.named Bd.method).1 (BodyLoose.notSynchronized Bd) Bd.returns hZ (Stand.of_body Bd) (by rw [← hh, Bd.state]; rfl)
theorem own_back {Z : State} {a0 : Array Value} {h : Heap} {y : MethodName} {bytes : ByteArray} {maxL : Nat} {ret : Option FieldType} {rm : Room} {len W : Nat} {as' : Array Value} {Q : Option Value → Heap → List Loc → Prop} (hM : own_Met l Z y bytes maxL ret [] rm as' h Q)
    (hZ : Z.Warmed39 s.vm) (wc : (Jvm.Cond.code y bytes maxL ret).before a0 Z = true) (wz : (Jvm.Cond.initialized y.cls).before a0 Z = true) (hf : rm.frames + 1 ≤ R.frames) (hl : W + (maxL + 11) + rm.locals ≤ R.locals) :
    Back l R p e below s args y len W (fun A a => a = as' ∧ A.U.heap = h ∧ A.cells + rm.cells ≤ R.cells ∧ A.slots + rm.slots ≤ R.slots) (fun A _ v B => ∃ L, Q v B.U.heap L ∧ B.locs = A.locs ++ L ∧ B.cells = A.cells + rm.cells ∧ B.slots = A.slots + rm.slots) :=
  backOf (Q := Q) hM hZ wc wz hf hl
theorem own_xt {h0 h h' : Heap} (E : Ext h0 h) (F : Ext h h') : Ext h0 h' := ⟨Nat.le_trans E.1 F.1, fun a c q => F.2 a c (E.2 a c q)⟩
theorem own_xr (h : Heap) : Ext h h := ⟨Nat.le_refl _, fun _ _ q => q⟩
theorem own_xw {h0 h h' : Heap} {a : Addr} {sl : Nat} {v : Value} (E : Ext h0 h) (W : Wr h h' a sl v) (q : h0.size ≤ a) : Ext h0 h' := by
  have K := (Keep.of_wr W)
  exact ⟨Nat.le_trans E.1 K.1, fun x c r => K.2.1 x c (E.2 x c r) fun z => by
    cases List.mem_singleton.mp z
    exact absurd (Array.getElem?_eq_some_iff.mp r).1 (Nat.not_lt.mpr q)⟩
theorem own_fI {Z : State} {args : Array Value} {t : Term} {F fn fd : String} {a : Addr} {k : Int32} (ev : t.eval args Z none [] Z = some (.ref a)) (h : (Cond.eq (Term.field t F fn fd) (Term.int k)).value args Z none Z [] = some true) : Fld Z Z.heap a F fn fd (.int k) := by
  obtain ⟨x, y, h1, h2, h3, h4⟩ := cmp_v (Or.inl h)
  rw [fld_at ev] at h1
  cases (Term.int_eval k).symm.trans h2
  obtain ⟨z, rfl⟩ := h4
  have e1 : (Term.field t F fn fd).eval args Z none [] Z = some (.int z) := (fld_at ev).trans h1
  simp only [Cond.value, e1, Term.int_eval] at h
  have hz : z = k := by simpa using h
  subst hz
  exact Fld.start h1
theorem own_fJ {Z : State} {args : Array Value} {t : Term} {F fn fd : String} {a : Addr} {k : Int64} (ev : t.eval args Z none [] Z = some (.ref a)) (h : (Cond.eq (Term.field t F fn fd) (Term.long k)).value args Z none Z [] = some true) : Fld Z Z.heap a F fn fd (.long k) := by
  obtain ⟨x, y, h1, h2, h3, h4⟩ := cmp_v (Or.inl h)
  rw [fld_at ev] at h1
  cases (long_at k).symm.trans h2
  obtain ⟨z, rfl⟩ := h4
  have e1 : (Term.field t F fn fd).eval args Z none [] Z = some (.long z) := (fld_at ev).trans h1
  have hz := gotT (eq_L e1 (long_at k)) h
  subst hz
  exact Fld.start h1
theorem own_len {Z : State} {args : Array Value} {t : Term} {a : Addr} {cl : Cell} {ty : FieldType} {k : Int32} (ev : t.eval args Z none [] Z = some (.ref a)) (A : Arr Z Z.heap a cl ty) (h : (Cond.eq (Term.length t) (Term.int k)).value args Z none Z [] = some true) : cl.slots.size < 2 ^ 31 ∧ cl.slots.size.toInt32 = k := by
  have ha := Arr.fin (Vm.Alike.refl _) A
  obtain ⟨x, y, h1, h2, h3, h4⟩ := cmp_v (Or.inl h)
  by_cases hl : cl.slots.size < 2 ^ 31
  · have e1 := len_f (o := none) (idx := []) (first := Z) (args := args) ev ha hl
    simp only [Cond.value, e1, Term.int_eval] at h
    exact ⟨hl, by simpa using h⟩
  · simp [Term.eval, ev, ha, hl] at h1
theorem own_elV {Z : State} {args : Array Value} {t u : Term} {a : Addr} {cl : Cell} {k : Int32} {v : Value} {i : Nat} (ev : t.eval args Z none [] Z = some (.ref a)) (hc : Z.heap[a]? = some cl) (hu : u.eval args Z none [] Z = some v) (h : (Cond.eq (Term.elem t (Term.int k)) u).value args Z none Z [] = some true) (hk : k.toNatClampNeg = i) : cl.slots[i]? = some v := by
  obtain ⟨x, y, h1, h2, h3, h4⟩ := cmp_v (Or.inl h)
  cases hu.symm.trans h2
  have q := (elem_in h1 ev (Term.int_eval k) hc).2
  rw [hk] at q
  rw [q]
  simp only [Cond.value, h1, hu] at h
  cases x <;> cases v <;> simp_all [Kin, Value.isRef]
theorem own_ne {Z : State} {h : Heap} {a b : Addr} {C n d : String} {k j : Int32} (F : Fld Z h a C n d (.int k)) (G : Fld Z h b C n d (.int j)) (q : k ≠ j) : a ≠ b := Fld.ne F G (fun e => q (Value.int.inj e))
theorem own_rem {x n : Int32} (h0 : 0 ≤ x.toInt) (h1 : 0 < n.toInt) : 0 ≤ (x % n).toInt ∧ (x % n).toInt < n.toInt := by
  have := (c_iremV x n).1 h0 h1; exact ⟨this.1, this.2.1⟩
theorem own_msk (x : Int32) : 0 ≤ (x &&& (2147483647 : Int32)).toInt := (c_and x 2147483647 (by decide)).1
end OwnKit
def own_W (Z : State) (A : Nat → Addr) : Prop := Sta Z Z.heap "com/example/facet/facet/model/AttributeType" "S" "Lcom/example/facet/facet/model/AttributeType;" (.ref (A 0)) ∧ Exa Z Z.heap (A 0) "com/example/facet/facet/model/AttributeType" ∧ Sta Z Z.heap "com/example/facet/facet/model/AttributeType" "N" "Lcom/example/facet/facet/model/AttributeType;" (.ref (A 1)) ∧ Exa Z Z.heap (A 1) "com/example/facet/facet/model/AttributeType" ∧ Sta Z Z.heap "com/example/facet/facet/model/AttributeType" "B" "Lcom/example/facet/facet/model/AttributeType;" (.ref (A 2)) ∧ Exa Z Z.heap (A 2) "com/example/facet/facet/model/AttributeType" ∧ Sta Z Z.heap "com/example/facet/facet/model/AttributeType" "BOOL" "Lcom/example/facet/facet/model/AttributeType;" (.ref (A 3)) ∧ Exa Z Z.heap (A 3) "com/example/facet/facet/model/AttributeType" ∧ Sta Z Z.heap "com/example/facet/facet/model/AttributeType" "NULL" "Lcom/example/facet/facet/model/AttributeType;" (.ref (A 4)) ∧ Exa Z Z.heap (A 4) "com/example/facet/facet/model/AttributeType" ∧ Sta Z Z.heap "com/example/facet/facet/model/AttributeType" "M" "Lcom/example/facet/facet/model/AttributeType;" (.ref (A 5)) ∧ Exa Z Z.heap (A 5) "com/example/facet/facet/model/AttributeType" ∧ Sta Z Z.heap "com/example/facet/facet/model/AttributeType" "L" "Lcom/example/facet/facet/model/AttributeType;" (.ref (A 6)) ∧ Exa Z Z.heap (A 6) "com/example/facet/facet/model/AttributeType" ∧ Sta Z Z.heap "com/example/facet/facet/model/AttributeType" "SS" "Lcom/example/facet/facet/model/AttributeType;" (.ref (A 7)) ∧ Exa Z Z.heap (A 7) "com/example/facet/facet/model/AttributeType" ∧ Sta Z Z.heap "com/example/facet/facet/model/AttributeType" "NS" "Lcom/example/facet/facet/model/AttributeType;" (.ref (A 8)) ∧ Exa Z Z.heap (A 8) "com/example/facet/facet/model/AttributeType" ∧ Sta Z Z.heap "com/example/facet/facet/model/AttributeType" "BS" "Lcom/example/facet/facet/model/AttributeType;" (.ref (A 9)) ∧ Exa Z Z.heap (A 9) "com/example/facet/facet/model/AttributeType" ∧ Fld Z Z.heap (A 3) "java/lang/Enum" "ordinal" "I" (.int (3 : Int32)) ∧ Fld Z Z.heap (A 0) "java/lang/Enum" "ordinal" "I" (.int (0 : Int32)) ∧ Fld Z Z.heap (A 1) "java/lang/Enum" "ordinal" "I" (.int (1 : Int32)) ∧ Fld Z Z.heap (A 2) "java/lang/Enum" "ordinal" "I" (.int (2 : Int32)) ∧ Fld Z Z.heap (A 4) "java/lang/Enum" "ordinal" "I" (.int (4 : Int32)) ∧ Fld Z Z.heap (A 7) "java/lang/Enum" "ordinal" "I" (.int (7 : Int32)) ∧ Fld Z Z.heap (A 8) "java/lang/Enum" "ordinal" "I" (.int (8 : Int32)) ∧ Fld Z Z.heap (A 9) "java/lang/Enum" "ordinal" "I" (.int (9 : Int32)) ∧ Fld Z Z.heap (A 5) "java/lang/Enum" "ordinal" "I" (.int (5 : Int32)) ∧ Fld Z Z.heap (A 6) "java/lang/Enum" "ordinal" "I" (.int (6 : Int32))
theorem own_c10 (x : Int32) : ((x &&& (2147483647 : Int32)) % (10 : Int32)) = (0 : Int32) ∨ ((x &&& (2147483647 : Int32)) % (10 : Int32)) = (1 : Int32) ∨ ((x &&& (2147483647 : Int32)) % (10 : Int32)) = (2 : Int32) ∨ ((x &&& (2147483647 : Int32)) % (10 : Int32)) = (3 : Int32) ∨ ((x &&& (2147483647 : Int32)) % (10 : Int32)) = (4 : Int32) ∨ ((x &&& (2147483647 : Int32)) % (10 : Int32)) = (5 : Int32) ∨ ((x &&& (2147483647 : Int32)) % (10 : Int32)) = (6 : Int32) ∨ ((x &&& (2147483647 : Int32)) % (10 : Int32)) = (7 : Int32) ∨ ((x &&& (2147483647 : Int32)) % (10 : Int32)) = (8 : Int32) ∨ ((x &&& (2147483647 : Int32)) % (10 : Int32)) = (9 : Int32) := by
  have h := own_rem (n := (10 : Int32)) (own_msk x) (by decide)
  generalize ((x &&& (2147483647 : Int32)) % (10 : Int32)) = i at h ⊢
  have hn : ((10 : Int32)).toInt = 10 := by decide
  rw [hn] at h
  rcases (by omega : i.toInt = 0 ∨ i.toInt = 1 ∨ i.toInt = 2 ∨ i.toInt = 3 ∨ i.toInt = 4 ∨ i.toInt = 5 ∨ i.toInt = 6 ∨ i.toInt = 7 ∨ i.toInt = 8 ∨ i.toInt = 9) with q | q | q | q | q | q | q | q | q | q
  · exact Or.inl (Int32.toInt_inj.mp (q.trans (by decide : (0 : Int) = ((0 : Int32)).toInt)))
  · exact Or.inr (Or.inl (Int32.toInt_inj.mp (q.trans (by decide : (1 : Int) = ((1 : Int32)).toInt))))
  · exact Or.inr (Or.inr (Or.inl (Int32.toInt_inj.mp (q.trans (by decide : (2 : Int) = ((2 : Int32)).toInt)))))
  · exact Or.inr (Or.inr (Or.inr (Or.inl (Int32.toInt_inj.mp (q.trans (by decide : (3 : Int) = ((3 : Int32)).toInt))))))
  · exact Or.inr (Or.inr (Or.inr (Or.inr (Or.inl (Int32.toInt_inj.mp (q.trans (by decide : (4 : Int) = ((4 : Int32)).toInt)))))))
  · exact Or.inr (Or.inr (Or.inr (Or.inr (Or.inr (Or.inl (Int32.toInt_inj.mp (q.trans (by decide : (5 : Int) = ((5 : Int32)).toInt))))))))
  · exact Or.inr (Or.inr (Or.inr (Or.inr (Or.inr (Or.inr (Or.inl (Int32.toInt_inj.mp (q.trans (by decide : (6 : Int) = ((6 : Int32)).toInt)))))))))
  · exact Or.inr (Or.inr (Or.inr (Or.inr (Or.inr (Or.inr (Or.inr (Or.inl (Int32.toInt_inj.mp (q.trans (by decide : (7 : Int) = ((7 : Int32)).toInt))))))))))
  · exact Or.inr (Or.inr (Or.inr (Or.inr (Or.inr (Or.inr (Or.inr (Or.inr (Or.inl (Int32.toInt_inj.mp (q.trans (by decide : (8 : Int) = ((8 : Int32)).toInt)))))))))))
  · exact Or.inr (Or.inr (Or.inr (Or.inr (Or.inr (Or.inr (Or.inr (Or.inr (Or.inr ((Int32.toInt_inj.mp (q.trans (by decide : (9 : Int) = ((9 : Int32)).toInt))))))))))))
theorem pn_0 : plainName "com/example/facet/facet/model/AttributeTypeIsKeyTypePinLaw" = true := by first | (simp [plainName, overriddenIn]; done) | decide +kernel
theorem ef_0 (m : MethodId) (x0 : Int32) : entryFrame m #[(.int x0)] maxLocals = mkF m 0 #[.val (.int x0), .unset, .unset, .unset] [] := by first | (simp [entryFrame, mkF, argsToLocals, Value.category, maxLocals]; done) | rfl
theorem pn_1 : plainName "com/example/facet/facet/model/AttributeType" = true := by first | (simp [plainName, overriddenIn]; done) | decide +kernel
theorem ef_1 (m : MethodId) (x0 : Addr) : entryFrame m #[(.ref x0)] 1 = mkF m 0 #[.val (.ref x0)] [] := by first | (simp [entryFrame, mkF, argsToLocals, Value.category]; done) | rfl
theorem d1_0 : decode prog_18_method_6_code 0 = .ok (.aload_n 0, 1) := by decide +kernel
theorem d1_1 : decode prog_18_method_6_code 1 = .ok (.getstatic 3, 3) := by decide +kernel
theorem d1_4 : decode prog_18_method_6_code 4 = .ok (.if_acmp .eq 17, 3) := by decide +kernel
theorem d1_21 : decode prog_18_method_6_code 21 = .ok (.iconst 1, 1) := by decide +kernel
theorem d1_22 : decode prog_18_method_6_code 22 = .ok (.goto 4, 3) := by decide +kernel
theorem d1_26 : decode prog_18_method_6_code 26 = .ok (.ireturn, 1) := by decide +kernel
theorem pd_0 : parseMethodDescriptor "()Z" = some ⟨[], some .boolean⟩ := by decide +kernel
theorem d1_7 : decode prog_18_method_6_code 7 = .ok (.aload_n 0, 1) := by decide +kernel
theorem d1_8 : decode prog_18_method_6_code 8 = .ok (.getstatic 7, 3) := by decide +kernel
theorem d1_11 : decode prog_18_method_6_code 11 = .ok (.if_acmp .eq 10, 3) := by decide +kernel
theorem d1_14 : decode prog_18_method_6_code 14 = .ok (.aload_n 0, 1) := by decide +kernel
theorem d1_15 : decode prog_18_method_6_code 15 = .ok (.getstatic 10, 3) := by decide +kernel
theorem d1_18 : decode prog_18_method_6_code 18 = .ok (.if_acmp .ne 7, 3) := by decide +kernel
theorem d1_25 : decode prog_18_method_6_code 25 = .ok (.iconst 0, 1) := by decide +kernel
set_option maxRecDepth 65536 in
set_option maxHeartbeats 40000000 in
theorem rm1_0 (l : Launch) (Z : State) (a0 : Array Value) (hw : ∀ d ∈ tables_1, d.before a0 Z = true) (ws : List Jvm.Cond)  (A : Nat → Addr) (hW : own_W Z A) (h0 : Heap) (x0 : Ext Z.heap h0)  :
    own_Met l Z (⟨"com/example/facet/facet/model/AttributeType", "isKeyType", "()Z"⟩ : MethodName) prog_18_method_6_code 1 (some .boolean) ws ({ frames := 0, cells := 0, slots := 0, locals := 0 } : Room) #[(.ref (A 0))] h0 (fun v_ h_ L_ => v_ = some (.int (1 : Int32)) ∧ Fr Z.heap.size L_ ∧ h_ = h0) := by
  refine own_body (plainFor_of_name pn_1) fun p e s m below meth c s₁ hx hby hml hown hnm hlk hrt hZ X0 e0 => ?_
  have N0 := Fr.nil Z.heap.size
  have hW' := hW
  obtain ⟨S_S, -, -, -, -, -, -, -, -, -, -, -, -, -, -, -, -, -, -, -, -, -, -, -, -, -, -, -, -, -⟩ := hW'
  refine own_go (B := s₁.setTop (mkF m 0 #[.val (.ref (A 0))] [])) (fun t k => castTop (ef_1 m (A 0)) k) ?_
  refine own_go (B := s₁.setTop (mkF m 1 #[.val (.ref (A 0))] [(.ref (A 0))])) (fun _ k => XS.aloadN X0.here hx rfl (hb hby d1_0) rfl rfl k) ?_
  obtain ⟨T1, X1, e1, st1⟩ := getS2 X0 hx hZ hown (host := "") (Or.inl (hw _ (List.mem_of_getElem? (i := 30) rfl))) Via.refl e0 (S_S.ext x0) (g := (mkF m 1 #[.val (.ref (A 0))] [(.ref (A 0))])) rfl (hb hby d1_1)
  refine own_go (B := T1.setTop (mkF m 4 #[.val (.ref (A 0))] [(.ref (A 0)), (.ref (A 0))])) st1 ?_
  refine own_go (B := T1.setTop (mkF m 21 #[.val (.ref (A 0))] [])) (fun _ k => Jvm.RoadKit.acmp (g := (mkF m 4 #[.val (.ref (A 0))] [(.ref (A 0)), (.ref (A 0))])) X1 hx rfl rfl rfl (pc0 := 4) (pc' := 21) (same := true) rfl (hb hby d1_4) rfl (decide_eq_true rfl) (by decide) (by decide) k) ?_
  refine own_go (B := T1.setTop (mkF m 22 #[.val (.ref (A 0))] [(.int (1 : Int32))])) (fun _ k => XT.iconstV X1.here hx rfl (1 : Int32) (hb hby d1_21) rfl k) ?_
  refine own_go (B := T1.setTop (mkF m 26 #[.val (.ref (A 0))] [(.int (1 : Int32))])) (fun _ k => XS.goto X1.here hx rfl (pc0 := 22) (pc' := 26) rfl (hb hby d1_22) (by decide) (by decide) k) ?_
  exact own_ret X1 hx (t := .boolean) hrt rfl (Or.inl ⟨rfl, by simp, _, rfl⟩) (hb hby d1_26) hlk ⟨rfl, N0, e1⟩ (by decide) (by decide)
set_option maxRecDepth 65536 in
set_option maxHeartbeats 40000000 in
theorem rm1_1 (l : Launch) (Z : State) (a0 : Array Value) (hw : ∀ d ∈ tables_1, d.before a0 Z = true) (ws : List Jvm.Cond)  (A : Nat → Addr) (hW : own_W Z A) (h0 : Heap) (x0 : Ext Z.heap h0)  :
    own_Met l Z (⟨"com/example/facet/facet/model/AttributeType", "isKeyType", "()Z"⟩ : MethodName) prog_18_method_6_code 1 (some .boolean) ws ({ frames := 0, cells := 0, slots := 0, locals := 0 } : Room) #[(.ref (A 1))] h0 (fun v_ h_ L_ => v_ = some (.int (1 : Int32)) ∧ Fr Z.heap.size L_ ∧ h_ = h0) := by
  refine own_body (plainFor_of_name pn_1) fun p e s m below meth c s₁ hx hby hml hown hnm hlk hrt hZ X0 e0 => ?_
  have N0 := Fr.nil Z.heap.size
  have hW' := hW
  obtain ⟨S_S, -, S_N, -, -, -, -, -, -, -, -, -, -, -, -, -, -, -, -, -, -, F_S_ordinal, F_N_ordinal, -, -, -, -, -, -, -⟩ := hW'
  refine own_go (B := s₁.setTop (mkF m 0 #[.val (.ref (A 1))] [])) (fun t k => castTop (ef_1 m (A 1)) k) ?_
  refine own_go (B := s₁.setTop (mkF m 1 #[.val (.ref (A 1))] [(.ref (A 1))])) (fun _ k => XS.aloadN X0.here hx rfl (hb hby d1_0) rfl rfl k) ?_
  obtain ⟨T1, X1, e1, st1⟩ := getS2 X0 hx hZ hown (host := "") (Or.inl (hw _ (List.mem_of_getElem? (i := 30) rfl))) Via.refl e0 (S_S.ext x0) (g := (mkF m 1 #[.val (.ref (A 1))] [(.ref (A 1))])) rfl (hb hby d1_1)
  refine own_go (B := T1.setTop (mkF m 4 #[.val (.ref (A 1))] [(.ref (A 0)), (.ref (A 1))])) st1 ?_
  refine own_go (B := T1.setTop (mkF m 7 #[.val (.ref (A 1))] [])) (fun _ k => Jvm.RoadKit.acmp (g := (mkF m 4 #[.val (.ref (A 1))] [(.ref (A 0)), (.ref (A 1))])) X1 hx rfl rfl rfl (pc0 := 4) (pc' := 7) (same := false) rfl (hb hby d1_4) rfl (decide_eq_false fun q => (own_ne F_N_ordinal F_S_ordinal (by decide)) (Value.ref.inj q)) (by decide) (by decide) k) ?_
  refine own_go (B := T1.setTop (mkF m 8 #[.val (.ref (A 1))] [(.ref (A 1))])) (fun _ k => XS.aloadN X1.here hx rfl (hb hby d1_7) rfl rfl k) ?_
  obtain ⟨T2, X2, e2, st2⟩ := getS2 X1 hx hZ hown (host := "") (Or.inl (hw _ (List.mem_of_getElem? (i := 31) rfl))) Via.refl e1 (S_N.ext x0) (g := (mkF m 8 #[.val (.ref (A 1))] [(.ref (A 1))])) rfl (hb hby d1_8)
  refine own_go (B := T2.setTop (mkF m 11 #[.val (.ref (A 1))] [(.ref (A 1)), (.ref (A 1))])) st2 ?_
  refine own_go (B := T2.setTop (mkF m 21 #[.val (.ref (A 1))] [])) (fun _ k => Jvm.RoadKit.acmp (g := (mkF m 11 #[.val (.ref (A 1))] [(.ref (A 1)), (.ref (A 1))])) X2 hx rfl rfl rfl (pc0 := 11) (pc' := 21) (same := true) rfl (hb hby d1_11) rfl (decide_eq_true rfl) (by decide) (by decide) k) ?_
  refine own_go (B := T2.setTop (mkF m 22 #[.val (.ref (A 1))] [(.int (1 : Int32))])) (fun _ k => XT.iconstV X2.here hx rfl (1 : Int32) (hb hby d1_21) rfl k) ?_
  refine own_go (B := T2.setTop (mkF m 26 #[.val (.ref (A 1))] [(.int (1 : Int32))])) (fun _ k => XS.goto X2.here hx rfl (pc0 := 22) (pc' := 26) rfl (hb hby d1_22) (by decide) (by decide) k) ?_
  exact own_ret X2 hx (t := .boolean) hrt rfl (Or.inl ⟨rfl, by simp, _, rfl⟩) (hb hby d1_26) hlk ⟨rfl, N0, e2⟩ (by decide) (by decide)
set_option maxRecDepth 65536 in
set_option maxHeartbeats 40000000 in
theorem rm1_2 (l : Launch) (Z : State) (a0 : Array Value) (hw : ∀ d ∈ tables_1, d.before a0 Z = true) (ws : List Jvm.Cond)  (A : Nat → Addr) (hW : own_W Z A) (h0 : Heap) (x0 : Ext Z.heap h0)  :
    own_Met l Z (⟨"com/example/facet/facet/model/AttributeType", "isKeyType", "()Z"⟩ : MethodName) prog_18_method_6_code 1 (some .boolean) ws ({ frames := 0, cells := 0, slots := 0, locals := 0 } : Room) #[(.ref (A 2))] h0 (fun v_ h_ L_ => v_ = some (.int (1 : Int32)) ∧ Fr Z.heap.size L_ ∧ h_ = h0) := by
  refine own_body (plainFor_of_name pn_1) fun p e s m below meth c s₁ hx hby hml hown hnm hlk hrt hZ X0 e0 => ?_
  have N0 := Fr.nil Z.heap.size
  have hW' := hW
  obtain ⟨S_S, -, S_N, -, S_B, -, -, -, -, -, -, -, -, -, -, -, -, -, -, -, -, F_S_ordinal, F_N_ordinal, F_B_ordinal, -, -, -, -, -, -⟩ := hW'
  refine own_go (B := s₁.setTop (mkF m 0 #[.val (.ref (A 2))] [])) (fun t k => castTop (ef_1 m (A 2)) k) ?_
  refine own_go (B := s₁.setTop (mkF m 1 #[.val (.ref (A 2))] [(.ref (A 2))])) (fun _ k => XS.aloadN X0.here hx rfl (hb hby d1_0) rfl rfl k) ?_
  obtain ⟨T1, X1, e1, st1⟩ := getS2 X0 hx hZ hown (host := "") (Or.inl (hw _ (List.mem_of_getElem? (i := 30) rfl))) Via.refl e0 (S_S.ext x0) (g := (mkF m 1 #[.val (.ref (A 2))] [(.ref (A 2))])) rfl (hb hby d1_1)
  refine own_go (B := T1.setTop (mkF m 4 #[.val (.ref (A 2))] [(.ref (A 0)), (.ref (A 2))])) st1 ?_
  refine own_go (B := T1.setTop (mkF m 7 #[.val (.ref (A 2))] [])) (fun _ k => Jvm.RoadKit.acmp (g := (mkF m 4 #[.val (.ref (A 2))] [(.ref (A 0)), (.ref (A 2))])) X1 hx rfl rfl rfl (pc0 := 4) (pc' := 7) (same := false) rfl (hb hby d1_4) rfl (decide_eq_false fun q => (own_ne F_B_ordinal F_S_ordinal (by decide)) (Value.ref.inj q)) (by decide) (by decide) k) ?_
  refine own_go (B := T1.setTop (mkF m 8 #[.val (.ref (A 2))] [(.ref (A 2))])) (fun _ k => XS.aloadN X1.here hx rfl (hb hby d1_7) rfl rfl k) ?_
  obtain ⟨T2, X2, e2, st2⟩ := getS2 X1 hx hZ hown (host := "") (Or.inl (hw _ (List.mem_of_getElem? (i := 31) rfl))) Via.refl e1 (S_N.ext x0) (g := (mkF m 8 #[.val (.ref (A 2))] [(.ref (A 2))])) rfl (hb hby d1_8)
  refine own_go (B := T2.setTop (mkF m 11 #[.val (.ref (A 2))] [(.ref (A 1)), (.ref (A 2))])) st2 ?_
  refine own_go (B := T2.setTop (mkF m 14 #[.val (.ref (A 2))] [])) (fun _ k => Jvm.RoadKit.acmp (g := (mkF m 11 #[.val (.ref (A 2))] [(.ref (A 1)), (.ref (A 2))])) X2 hx rfl rfl rfl (pc0 := 11) (pc' := 14) (same := false) rfl (hb hby d1_11) rfl (decide_eq_false fun q => (own_ne F_B_ordinal F_N_ordinal (by decide)) (Value.ref.inj q)) (by decide) (by decide) k) ?_
  refine own_go (B := T2.setTop (mkF m 15 #[.val (.ref (A 2))] [(.ref (A 2))])) (fun _ k => XS.aloadN X2.here hx rfl (hb hby d1_14) rfl rfl k) ?_
  obtain ⟨T3, X3, e3, st3⟩ := getS2 X2 hx hZ hown (host := "") (Or.inl (hw _ (List.mem_of_getElem? (i := 32) rfl))) Via.refl e2 (S_B.ext x0) (g := (mkF m 15 #[.val (.ref (A 2))] [(.ref (A 2))])) rfl (hb hby d1_15)
  refine own_go (B := T3.setTop (mkF m 18 #[.val (.ref (A 2))] [(.ref (A 2)), (.ref (A 2))])) st3 ?_
  refine own_go (B := T3.setTop (mkF m 21 #[.val (.ref (A 2))] [])) (fun _ k => Jvm.RoadKit.acmp (g := (mkF m 18 #[.val (.ref (A 2))] [(.ref (A 2)), (.ref (A 2))])) X3 hx rfl rfl rfl (pc0 := 18) (pc' := 21) (same := true) rfl (hb hby d1_18) rfl (decide_eq_true rfl) (by decide) (by decide) k) ?_
  refine own_go (B := T3.setTop (mkF m 22 #[.val (.ref (A 2))] [(.int (1 : Int32))])) (fun _ k => XT.iconstV X3.here hx rfl (1 : Int32) (hb hby d1_21) rfl k) ?_
  refine own_go (B := T3.setTop (mkF m 26 #[.val (.ref (A 2))] [(.int (1 : Int32))])) (fun _ k => XS.goto X3.here hx rfl (pc0 := 22) (pc' := 26) rfl (hb hby d1_22) (by decide) (by decide) k) ?_
  exact own_ret X3 hx (t := .boolean) hrt rfl (Or.inl ⟨rfl, by simp, _, rfl⟩) (hb hby d1_26) hlk ⟨rfl, N0, e3⟩ (by decide) (by decide)
set_option maxRecDepth 65536 in
set_option maxHeartbeats 40000000 in
theorem rm1_3 (l : Launch) (Z : State) (a0 : Array Value) (hw : ∀ d ∈ tables_1, d.before a0 Z = true) (ws : List Jvm.Cond)  (A : Nat → Addr) (hW : own_W Z A) (h0 : Heap) (x0 : Ext Z.heap h0)  :
    own_Met l Z (⟨"com/example/facet/facet/model/AttributeType", "isKeyType", "()Z"⟩ : MethodName) prog_18_method_6_code 1 (some .boolean) ws ({ frames := 0, cells := 0, slots := 0, locals := 0 } : Room) #[(.ref (A 3))] h0 (fun v_ h_ L_ => v_ = some (.int (0 : Int32)) ∧ Fr Z.heap.size L_ ∧ h_ = h0) := by
  refine own_body (plainFor_of_name pn_1) fun p e s m below meth c s₁ hx hby hml hown hnm hlk hrt hZ X0 e0 => ?_
  have N0 := Fr.nil Z.heap.size
  have hW' := hW
  obtain ⟨S_S, -, S_N, -, S_B, -, -, -, -, -, -, -, -, -, -, -, -, -, -, -, F_BOOL_ordinal, F_S_ordinal, F_N_ordinal, F_B_ordinal, -, -, -, -, -, -⟩ := hW'
  refine own_go (B := s₁.setTop (mkF m 0 #[.val (.ref (A 3))] [])) (fun t k => castTop (ef_1 m (A 3)) k) ?_
  refine own_go (B := s₁.setTop (mkF m 1 #[.val (.ref (A 3))] [(.ref (A 3))])) (fun _ k => XS.aloadN X0.here hx rfl (hb hby d1_0) rfl rfl k) ?_
  obtain ⟨T1, X1, e1, st1⟩ := getS2 X0 hx hZ hown (host := "") (Or.inl (hw _ (List.mem_of_getElem? (i := 30) rfl))) Via.refl e0 (S_S.ext x0) (g := (mkF m 1 #[.val (.ref (A 3))] [(.ref (A 3))])) rfl (hb hby d1_1)
  refine own_go (B := T1.setTop (mkF m 4 #[.val (.ref (A 3))] [(.ref (A 0)), (.ref (A 3))])) st1 ?_
  refine own_go (B := T1.setTop (mkF m 7 #[.val (.ref (A 3))] [])) (fun _ k => Jvm.RoadKit.acmp (g := (mkF m 4 #[.val (.ref (A 3))] [(.ref (A 0)), (.ref (A 3))])) X1 hx rfl rfl rfl (pc0 := 4) (pc' := 7) (same := false) rfl (hb hby d1_4) rfl (decide_eq_false fun q => (own_ne F_BOOL_ordinal F_S_ordinal (by decide)) (Value.ref.inj q)) (by decide) (by decide) k) ?_
  refine own_go (B := T1.setTop (mkF m 8 #[.val (.ref (A 3))] [(.ref (A 3))])) (fun _ k => XS.aloadN X1.here hx rfl (hb hby d1_7) rfl rfl k) ?_
  obtain ⟨T2, X2, e2, st2⟩ := getS2 X1 hx hZ hown (host := "") (Or.inl (hw _ (List.mem_of_getElem? (i := 31) rfl))) Via.refl e1 (S_N.ext x0) (g := (mkF m 8 #[.val (.ref (A 3))] [(.ref (A 3))])) rfl (hb hby d1_8)
  refine own_go (B := T2.setTop (mkF m 11 #[.val (.ref (A 3))] [(.ref (A 1)), (.ref (A 3))])) st2 ?_
  refine own_go (B := T2.setTop (mkF m 14 #[.val (.ref (A 3))] [])) (fun _ k => Jvm.RoadKit.acmp (g := (mkF m 11 #[.val (.ref (A 3))] [(.ref (A 1)), (.ref (A 3))])) X2 hx rfl rfl rfl (pc0 := 11) (pc' := 14) (same := false) rfl (hb hby d1_11) rfl (decide_eq_false fun q => (own_ne F_BOOL_ordinal F_N_ordinal (by decide)) (Value.ref.inj q)) (by decide) (by decide) k) ?_
  refine own_go (B := T2.setTop (mkF m 15 #[.val (.ref (A 3))] [(.ref (A 3))])) (fun _ k => XS.aloadN X2.here hx rfl (hb hby d1_14) rfl rfl k) ?_
  obtain ⟨T3, X3, e3, st3⟩ := getS2 X2 hx hZ hown (host := "") (Or.inl (hw _ (List.mem_of_getElem? (i := 32) rfl))) Via.refl e2 (S_B.ext x0) (g := (mkF m 15 #[.val (.ref (A 3))] [(.ref (A 3))])) rfl (hb hby d1_15)
  refine own_go (B := T3.setTop (mkF m 18 #[.val (.ref (A 3))] [(.ref (A 2)), (.ref (A 3))])) st3 ?_
  refine own_go (B := T3.setTop (mkF m 25 #[.val (.ref (A 3))] [])) (fun _ k => Jvm.RoadKit.acmp (g := (mkF m 18 #[.val (.ref (A 3))] [(.ref (A 2)), (.ref (A 3))])) X3 hx rfl rfl rfl (pc0 := 18) (pc' := 25) (same := false) rfl (hb hby d1_18) rfl (decide_eq_false fun q => (own_ne F_BOOL_ordinal F_B_ordinal (by decide)) (Value.ref.inj q)) (by decide) (by decide) k) ?_
  refine own_go (B := T3.setTop (mkF m 26 #[.val (.ref (A 3))] [(.int (0 : Int32))])) (fun _ k => XT.iconstV X3.here hx rfl (0 : Int32) (hb hby d1_25) rfl k) ?_
  exact own_ret X3 hx (t := .boolean) hrt rfl (Or.inl ⟨rfl, by simp, _, rfl⟩) (hb hby d1_26) hlk ⟨rfl, N0, e3⟩ (by decide) (by decide)
set_option maxRecDepth 65536 in
set_option maxHeartbeats 40000000 in
theorem rm1_4 (l : Launch) (Z : State) (a0 : Array Value) (hw : ∀ d ∈ tables_1, d.before a0 Z = true) (ws : List Jvm.Cond)  (A : Nat → Addr) (hW : own_W Z A) (h0 : Heap) (x0 : Ext Z.heap h0)  :
    own_Met l Z (⟨"com/example/facet/facet/model/AttributeType", "isKeyType", "()Z"⟩ : MethodName) prog_18_method_6_code 1 (some .boolean) ws ({ frames := 0, cells := 0, slots := 0, locals := 0 } : Room) #[(.ref (A 4))] h0 (fun v_ h_ L_ => v_ = some (.int (0 : Int32)) ∧ Fr Z.heap.size L_ ∧ h_ = h0) := by
  refine own_body (plainFor_of_name pn_1) fun p e s m below meth c s₁ hx hby hml hown hnm hlk hrt hZ X0 e0 => ?_
  have N0 := Fr.nil Z.heap.size
  have hW' := hW
  obtain ⟨S_S, -, S_N, -, S_B, -, -, -, -, -, -, -, -, -, -, -, -, -, -, -, -, F_S_ordinal, F_N_ordinal, F_B_ordinal, F_NULL_ordinal, -, -, -, -, -⟩ := hW'
  refine own_go (B := s₁.setTop (mkF m 0 #[.val (.ref (A 4))] [])) (fun t k => castTop (ef_1 m (A 4)) k) ?_
  refine own_go (B := s₁.setTop (mkF m 1 #[.val (.ref (A 4))] [(.ref (A 4))])) (fun _ k => XS.aloadN X0.here hx rfl (hb hby d1_0) rfl rfl k) ?_
  obtain ⟨T1, X1, e1, st1⟩ := getS2 X0 hx hZ hown (host := "") (Or.inl (hw _ (List.mem_of_getElem? (i := 30) rfl))) Via.refl e0 (S_S.ext x0) (g := (mkF m 1 #[.val (.ref (A 4))] [(.ref (A 4))])) rfl (hb hby d1_1)
  refine own_go (B := T1.setTop (mkF m 4 #[.val (.ref (A 4))] [(.ref (A 0)), (.ref (A 4))])) st1 ?_
  refine own_go (B := T1.setTop (mkF m 7 #[.val (.ref (A 4))] [])) (fun _ k => Jvm.RoadKit.acmp (g := (mkF m 4 #[.val (.ref (A 4))] [(.ref (A 0)), (.ref (A 4))])) X1 hx rfl rfl rfl (pc0 := 4) (pc' := 7) (same := false) rfl (hb hby d1_4) rfl (decide_eq_false fun q => (own_ne F_NULL_ordinal F_S_ordinal (by decide)) (Value.ref.inj q)) (by decide) (by decide) k) ?_
  refine own_go (B := T1.setTop (mkF m 8 #[.val (.ref (A 4))] [(.ref (A 4))])) (fun _ k => XS.aloadN X1.here hx rfl (hb hby d1_7) rfl rfl k) ?_
  obtain ⟨T2, X2, e2, st2⟩ := getS2 X1 hx hZ hown (host := "") (Or.inl (hw _ (List.mem_of_getElem? (i := 31) rfl))) Via.refl e1 (S_N.ext x0) (g := (mkF m 8 #[.val (.ref (A 4))] [(.ref (A 4))])) rfl (hb hby d1_8)
  refine own_go (B := T2.setTop (mkF m 11 #[.val (.ref (A 4))] [(.ref (A 1)), (.ref (A 4))])) st2 ?_
  refine own_go (B := T2.setTop (mkF m 14 #[.val (.ref (A 4))] [])) (fun _ k => Jvm.RoadKit.acmp (g := (mkF m 11 #[.val (.ref (A 4))] [(.ref (A 1)), (.ref (A 4))])) X2 hx rfl rfl rfl (pc0 := 11) (pc' := 14) (same := false) rfl (hb hby d1_11) rfl (decide_eq_false fun q => (own_ne F_NULL_ordinal F_N_ordinal (by decide)) (Value.ref.inj q)) (by decide) (by decide) k) ?_
  refine own_go (B := T2.setTop (mkF m 15 #[.val (.ref (A 4))] [(.ref (A 4))])) (fun _ k => XS.aloadN X2.here hx rfl (hb hby d1_14) rfl rfl k) ?_
  obtain ⟨T3, X3, e3, st3⟩ := getS2 X2 hx hZ hown (host := "") (Or.inl (hw _ (List.mem_of_getElem? (i := 32) rfl))) Via.refl e2 (S_B.ext x0) (g := (mkF m 15 #[.val (.ref (A 4))] [(.ref (A 4))])) rfl (hb hby d1_15)
  refine own_go (B := T3.setTop (mkF m 18 #[.val (.ref (A 4))] [(.ref (A 2)), (.ref (A 4))])) st3 ?_
  refine own_go (B := T3.setTop (mkF m 25 #[.val (.ref (A 4))] [])) (fun _ k => Jvm.RoadKit.acmp (g := (mkF m 18 #[.val (.ref (A 4))] [(.ref (A 2)), (.ref (A 4))])) X3 hx rfl rfl rfl (pc0 := 18) (pc' := 25) (same := false) rfl (hb hby d1_18) rfl (decide_eq_false fun q => (own_ne F_NULL_ordinal F_B_ordinal (by decide)) (Value.ref.inj q)) (by decide) (by decide) k) ?_
  refine own_go (B := T3.setTop (mkF m 26 #[.val (.ref (A 4))] [(.int (0 : Int32))])) (fun _ k => XT.iconstV X3.here hx rfl (0 : Int32) (hb hby d1_25) rfl k) ?_
  exact own_ret X3 hx (t := .boolean) hrt rfl (Or.inl ⟨rfl, by simp, _, rfl⟩) (hb hby d1_26) hlk ⟨rfl, N0, e3⟩ (by decide) (by decide)
set_option maxRecDepth 65536 in
set_option maxHeartbeats 40000000 in
theorem rm1_5 (l : Launch) (Z : State) (a0 : Array Value) (hw : ∀ d ∈ tables_1, d.before a0 Z = true) (ws : List Jvm.Cond)  (A : Nat → Addr) (hW : own_W Z A) (h0 : Heap) (x0 : Ext Z.heap h0)  :
    own_Met l Z (⟨"com/example/facet/facet/model/AttributeType", "isKeyType", "()Z"⟩ : MethodName) prog_18_method_6_code 1 (some .boolean) ws ({ frames := 0, cells := 0, slots := 0, locals := 0 } : Room) #[(.ref (A 5))] h0 (fun v_ h_ L_ => v_ = some (.int (0 : Int32)) ∧ Fr Z.heap.size L_ ∧ h_ = h0) := by
  refine own_body (plainFor_of_name pn_1) fun p e s m below meth c s₁ hx hby hml hown hnm hlk hrt hZ X0 e0 => ?_
  have N0 := Fr.nil Z.heap.size
  have hW' := hW
  obtain ⟨S_S, -, S_N, -, S_B, -, -, -, -, -, -, -, -, -, -, -, -, -, -, -, -, F_S_ordinal, F_N_ordinal, F_B_ordinal, -, -, -, -, F_M_ordinal, -⟩ := hW'
  refine own_go (B := s₁.setTop (mkF m 0 #[.val (.ref (A 5))] [])) (fun t k => castTop (ef_1 m (A 5)) k) ?_
  refine own_go (B := s₁.setTop (mkF m 1 #[.val (.ref (A 5))] [(.ref (A 5))])) (fun _ k => XS.aloadN X0.here hx rfl (hb hby d1_0) rfl rfl k) ?_
  obtain ⟨T1, X1, e1, st1⟩ := getS2 X0 hx hZ hown (host := "") (Or.inl (hw _ (List.mem_of_getElem? (i := 30) rfl))) Via.refl e0 (S_S.ext x0) (g := (mkF m 1 #[.val (.ref (A 5))] [(.ref (A 5))])) rfl (hb hby d1_1)
  refine own_go (B := T1.setTop (mkF m 4 #[.val (.ref (A 5))] [(.ref (A 0)), (.ref (A 5))])) st1 ?_
  refine own_go (B := T1.setTop (mkF m 7 #[.val (.ref (A 5))] [])) (fun _ k => Jvm.RoadKit.acmp (g := (mkF m 4 #[.val (.ref (A 5))] [(.ref (A 0)), (.ref (A 5))])) X1 hx rfl rfl rfl (pc0 := 4) (pc' := 7) (same := false) rfl (hb hby d1_4) rfl (decide_eq_false fun q => (own_ne F_M_ordinal F_S_ordinal (by decide)) (Value.ref.inj q)) (by decide) (by decide) k) ?_
  refine own_go (B := T1.setTop (mkF m 8 #[.val (.ref (A 5))] [(.ref (A 5))])) (fun _ k => XS.aloadN X1.here hx rfl (hb hby d1_7) rfl rfl k) ?_
  obtain ⟨T2, X2, e2, st2⟩ := getS2 X1 hx hZ hown (host := "") (Or.inl (hw _ (List.mem_of_getElem? (i := 31) rfl))) Via.refl e1 (S_N.ext x0) (g := (mkF m 8 #[.val (.ref (A 5))] [(.ref (A 5))])) rfl (hb hby d1_8)
  refine own_go (B := T2.setTop (mkF m 11 #[.val (.ref (A 5))] [(.ref (A 1)), (.ref (A 5))])) st2 ?_
  refine own_go (B := T2.setTop (mkF m 14 #[.val (.ref (A 5))] [])) (fun _ k => Jvm.RoadKit.acmp (g := (mkF m 11 #[.val (.ref (A 5))] [(.ref (A 1)), (.ref (A 5))])) X2 hx rfl rfl rfl (pc0 := 11) (pc' := 14) (same := false) rfl (hb hby d1_11) rfl (decide_eq_false fun q => (own_ne F_M_ordinal F_N_ordinal (by decide)) (Value.ref.inj q)) (by decide) (by decide) k) ?_
  refine own_go (B := T2.setTop (mkF m 15 #[.val (.ref (A 5))] [(.ref (A 5))])) (fun _ k => XS.aloadN X2.here hx rfl (hb hby d1_14) rfl rfl k) ?_
  obtain ⟨T3, X3, e3, st3⟩ := getS2 X2 hx hZ hown (host := "") (Or.inl (hw _ (List.mem_of_getElem? (i := 32) rfl))) Via.refl e2 (S_B.ext x0) (g := (mkF m 15 #[.val (.ref (A 5))] [(.ref (A 5))])) rfl (hb hby d1_15)
  refine own_go (B := T3.setTop (mkF m 18 #[.val (.ref (A 5))] [(.ref (A 2)), (.ref (A 5))])) st3 ?_
  refine own_go (B := T3.setTop (mkF m 25 #[.val (.ref (A 5))] [])) (fun _ k => Jvm.RoadKit.acmp (g := (mkF m 18 #[.val (.ref (A 5))] [(.ref (A 2)), (.ref (A 5))])) X3 hx rfl rfl rfl (pc0 := 18) (pc' := 25) (same := false) rfl (hb hby d1_18) rfl (decide_eq_false fun q => (own_ne F_M_ordinal F_B_ordinal (by decide)) (Value.ref.inj q)) (by decide) (by decide) k) ?_
  refine own_go (B := T3.setTop (mkF m 26 #[.val (.ref (A 5))] [(.int (0 : Int32))])) (fun _ k => XT.iconstV X3.here hx rfl (0 : Int32) (hb hby d1_25) rfl k) ?_
  exact own_ret X3 hx (t := .boolean) hrt rfl (Or.inl ⟨rfl, by simp, _, rfl⟩) (hb hby d1_26) hlk ⟨rfl, N0, e3⟩ (by decide) (by decide)
set_option maxRecDepth 65536 in
set_option maxHeartbeats 40000000 in
theorem rm1_6 (l : Launch) (Z : State) (a0 : Array Value) (hw : ∀ d ∈ tables_1, d.before a0 Z = true) (ws : List Jvm.Cond)  (A : Nat → Addr) (hW : own_W Z A) (h0 : Heap) (x0 : Ext Z.heap h0)  :
    own_Met l Z (⟨"com/example/facet/facet/model/AttributeType", "isKeyType", "()Z"⟩ : MethodName) prog_18_method_6_code 1 (some .boolean) ws ({ frames := 0, cells := 0, slots := 0, locals := 0 } : Room) #[(.ref (A 6))] h0 (fun v_ h_ L_ => v_ = some (.int (0 : Int32)) ∧ Fr Z.heap.size L_ ∧ h_ = h0) := by
  refine own_body (plainFor_of_name pn_1) fun p e s m below meth c s₁ hx hby hml hown hnm hlk hrt hZ X0 e0 => ?_
  have N0 := Fr.nil Z.heap.size
  have hW' := hW
  obtain ⟨S_S, -, S_N, -, S_B, -, -, -, -, -, -, -, -, -, -, -, -, -, -, -, -, F_S_ordinal, F_N_ordinal, F_B_ordinal, -, -, -, -, -, F_L_ordinal⟩ := hW'
  refine own_go (B := s₁.setTop (mkF m 0 #[.val (.ref (A 6))] [])) (fun t k => castTop (ef_1 m (A 6)) k) ?_
  refine own_go (B := s₁.setTop (mkF m 1 #[.val (.ref (A 6))] [(.ref (A 6))])) (fun _ k => XS.aloadN X0.here hx rfl (hb hby d1_0) rfl rfl k) ?_
  obtain ⟨T1, X1, e1, st1⟩ := getS2 X0 hx hZ hown (host := "") (Or.inl (hw _ (List.mem_of_getElem? (i := 30) rfl))) Via.refl e0 (S_S.ext x0) (g := (mkF m 1 #[.val (.ref (A 6))] [(.ref (A 6))])) rfl (hb hby d1_1)
  refine own_go (B := T1.setTop (mkF m 4 #[.val (.ref (A 6))] [(.ref (A 0)), (.ref (A 6))])) st1 ?_
  refine own_go (B := T1.setTop (mkF m 7 #[.val (.ref (A 6))] [])) (fun _ k => Jvm.RoadKit.acmp (g := (mkF m 4 #[.val (.ref (A 6))] [(.ref (A 0)), (.ref (A 6))])) X1 hx rfl rfl rfl (pc0 := 4) (pc' := 7) (same := false) rfl (hb hby d1_4) rfl (decide_eq_false fun q => (own_ne F_L_ordinal F_S_ordinal (by decide)) (Value.ref.inj q)) (by decide) (by decide) k) ?_
  refine own_go (B := T1.setTop (mkF m 8 #[.val (.ref (A 6))] [(.ref (A 6))])) (fun _ k => XS.aloadN X1.here hx rfl (hb hby d1_7) rfl rfl k) ?_
  obtain ⟨T2, X2, e2, st2⟩ := getS2 X1 hx hZ hown (host := "") (Or.inl (hw _ (List.mem_of_getElem? (i := 31) rfl))) Via.refl e1 (S_N.ext x0) (g := (mkF m 8 #[.val (.ref (A 6))] [(.ref (A 6))])) rfl (hb hby d1_8)
  refine own_go (B := T2.setTop (mkF m 11 #[.val (.ref (A 6))] [(.ref (A 1)), (.ref (A 6))])) st2 ?_
  refine own_go (B := T2.setTop (mkF m 14 #[.val (.ref (A 6))] [])) (fun _ k => Jvm.RoadKit.acmp (g := (mkF m 11 #[.val (.ref (A 6))] [(.ref (A 1)), (.ref (A 6))])) X2 hx rfl rfl rfl (pc0 := 11) (pc' := 14) (same := false) rfl (hb hby d1_11) rfl (decide_eq_false fun q => (own_ne F_L_ordinal F_N_ordinal (by decide)) (Value.ref.inj q)) (by decide) (by decide) k) ?_
  refine own_go (B := T2.setTop (mkF m 15 #[.val (.ref (A 6))] [(.ref (A 6))])) (fun _ k => XS.aloadN X2.here hx rfl (hb hby d1_14) rfl rfl k) ?_
  obtain ⟨T3, X3, e3, st3⟩ := getS2 X2 hx hZ hown (host := "") (Or.inl (hw _ (List.mem_of_getElem? (i := 32) rfl))) Via.refl e2 (S_B.ext x0) (g := (mkF m 15 #[.val (.ref (A 6))] [(.ref (A 6))])) rfl (hb hby d1_15)
  refine own_go (B := T3.setTop (mkF m 18 #[.val (.ref (A 6))] [(.ref (A 2)), (.ref (A 6))])) st3 ?_
  refine own_go (B := T3.setTop (mkF m 25 #[.val (.ref (A 6))] [])) (fun _ k => Jvm.RoadKit.acmp (g := (mkF m 18 #[.val (.ref (A 6))] [(.ref (A 2)), (.ref (A 6))])) X3 hx rfl rfl rfl (pc0 := 18) (pc' := 25) (same := false) rfl (hb hby d1_18) rfl (decide_eq_false fun q => (own_ne F_L_ordinal F_B_ordinal (by decide)) (Value.ref.inj q)) (by decide) (by decide) k) ?_
  refine own_go (B := T3.setTop (mkF m 26 #[.val (.ref (A 6))] [(.int (0 : Int32))])) (fun _ k => XT.iconstV X3.here hx rfl (0 : Int32) (hb hby d1_25) rfl k) ?_
  exact own_ret X3 hx (t := .boolean) hrt rfl (Or.inl ⟨rfl, by simp, _, rfl⟩) (hb hby d1_26) hlk ⟨rfl, N0, e3⟩ (by decide) (by decide)
set_option maxRecDepth 65536 in
set_option maxHeartbeats 40000000 in
theorem rm1_7 (l : Launch) (Z : State) (a0 : Array Value) (hw : ∀ d ∈ tables_1, d.before a0 Z = true) (ws : List Jvm.Cond)  (A : Nat → Addr) (hW : own_W Z A) (h0 : Heap) (x0 : Ext Z.heap h0)  :
    own_Met l Z (⟨"com/example/facet/facet/model/AttributeType", "isKeyType", "()Z"⟩ : MethodName) prog_18_method_6_code 1 (some .boolean) ws ({ frames := 0, cells := 0, slots := 0, locals := 0 } : Room) #[(.ref (A 7))] h0 (fun v_ h_ L_ => v_ = some (.int (0 : Int32)) ∧ Fr Z.heap.size L_ ∧ h_ = h0) := by
  refine own_body (plainFor_of_name pn_1) fun p e s m below meth c s₁ hx hby hml hown hnm hlk hrt hZ X0 e0 => ?_
  have N0 := Fr.nil Z.heap.size
  have hW' := hW
  obtain ⟨S_S, -, S_N, -, S_B, -, -, -, -, -, -, -, -, -, -, -, -, -, -, -, -, F_S_ordinal, F_N_ordinal, F_B_ordinal, -, F_SS_ordinal, -, -, -, -⟩ := hW'
  refine own_go (B := s₁.setTop (mkF m 0 #[.val (.ref (A 7))] [])) (fun t k => castTop (ef_1 m (A 7)) k) ?_
  refine own_go (B := s₁.setTop (mkF m 1 #[.val (.ref (A 7))] [(.ref (A 7))])) (fun _ k => XS.aloadN X0.here hx rfl (hb hby d1_0) rfl rfl k) ?_
  obtain ⟨T1, X1, e1, st1⟩ := getS2 X0 hx hZ hown (host := "") (Or.inl (hw _ (List.mem_of_getElem? (i := 30) rfl))) Via.refl e0 (S_S.ext x0) (g := (mkF m 1 #[.val (.ref (A 7))] [(.ref (A 7))])) rfl (hb hby d1_1)
  refine own_go (B := T1.setTop (mkF m 4 #[.val (.ref (A 7))] [(.ref (A 0)), (.ref (A 7))])) st1 ?_
  refine own_go (B := T1.setTop (mkF m 7 #[.val (.ref (A 7))] [])) (fun _ k => Jvm.RoadKit.acmp (g := (mkF m 4 #[.val (.ref (A 7))] [(.ref (A 0)), (.ref (A 7))])) X1 hx rfl rfl rfl (pc0 := 4) (pc' := 7) (same := false) rfl (hb hby d1_4) rfl (decide_eq_false fun q => (own_ne F_SS_ordinal F_S_ordinal (by decide)) (Value.ref.inj q)) (by decide) (by decide) k) ?_
  refine own_go (B := T1.setTop (mkF m 8 #[.val (.ref (A 7))] [(.ref (A 7))])) (fun _ k => XS.aloadN X1.here hx rfl (hb hby d1_7) rfl rfl k) ?_
  obtain ⟨T2, X2, e2, st2⟩ := getS2 X1 hx hZ hown (host := "") (Or.inl (hw _ (List.mem_of_getElem? (i := 31) rfl))) Via.refl e1 (S_N.ext x0) (g := (mkF m 8 #[.val (.ref (A 7))] [(.ref (A 7))])) rfl (hb hby d1_8)
  refine own_go (B := T2.setTop (mkF m 11 #[.val (.ref (A 7))] [(.ref (A 1)), (.ref (A 7))])) st2 ?_
  refine own_go (B := T2.setTop (mkF m 14 #[.val (.ref (A 7))] [])) (fun _ k => Jvm.RoadKit.acmp (g := (mkF m 11 #[.val (.ref (A 7))] [(.ref (A 1)), (.ref (A 7))])) X2 hx rfl rfl rfl (pc0 := 11) (pc' := 14) (same := false) rfl (hb hby d1_11) rfl (decide_eq_false fun q => (own_ne F_SS_ordinal F_N_ordinal (by decide)) (Value.ref.inj q)) (by decide) (by decide) k) ?_
  refine own_go (B := T2.setTop (mkF m 15 #[.val (.ref (A 7))] [(.ref (A 7))])) (fun _ k => XS.aloadN X2.here hx rfl (hb hby d1_14) rfl rfl k) ?_
  obtain ⟨T3, X3, e3, st3⟩ := getS2 X2 hx hZ hown (host := "") (Or.inl (hw _ (List.mem_of_getElem? (i := 32) rfl))) Via.refl e2 (S_B.ext x0) (g := (mkF m 15 #[.val (.ref (A 7))] [(.ref (A 7))])) rfl (hb hby d1_15)
  refine own_go (B := T3.setTop (mkF m 18 #[.val (.ref (A 7))] [(.ref (A 2)), (.ref (A 7))])) st3 ?_
  refine own_go (B := T3.setTop (mkF m 25 #[.val (.ref (A 7))] [])) (fun _ k => Jvm.RoadKit.acmp (g := (mkF m 18 #[.val (.ref (A 7))] [(.ref (A 2)), (.ref (A 7))])) X3 hx rfl rfl rfl (pc0 := 18) (pc' := 25) (same := false) rfl (hb hby d1_18) rfl (decide_eq_false fun q => (own_ne F_SS_ordinal F_B_ordinal (by decide)) (Value.ref.inj q)) (by decide) (by decide) k) ?_
  refine own_go (B := T3.setTop (mkF m 26 #[.val (.ref (A 7))] [(.int (0 : Int32))])) (fun _ k => XT.iconstV X3.here hx rfl (0 : Int32) (hb hby d1_25) rfl k) ?_
  exact own_ret X3 hx (t := .boolean) hrt rfl (Or.inl ⟨rfl, by simp, _, rfl⟩) (hb hby d1_26) hlk ⟨rfl, N0, e3⟩ (by decide) (by decide)
set_option maxRecDepth 65536 in
set_option maxHeartbeats 40000000 in
theorem rm1_8 (l : Launch) (Z : State) (a0 : Array Value) (hw : ∀ d ∈ tables_1, d.before a0 Z = true) (ws : List Jvm.Cond)  (A : Nat → Addr) (hW : own_W Z A) (h0 : Heap) (x0 : Ext Z.heap h0)  :
    own_Met l Z (⟨"com/example/facet/facet/model/AttributeType", "isKeyType", "()Z"⟩ : MethodName) prog_18_method_6_code 1 (some .boolean) ws ({ frames := 0, cells := 0, slots := 0, locals := 0 } : Room) #[(.ref (A 8))] h0 (fun v_ h_ L_ => v_ = some (.int (0 : Int32)) ∧ Fr Z.heap.size L_ ∧ h_ = h0) := by
  refine own_body (plainFor_of_name pn_1) fun p e s m below meth c s₁ hx hby hml hown hnm hlk hrt hZ X0 e0 => ?_
  have N0 := Fr.nil Z.heap.size
  have hW' := hW
  obtain ⟨S_S, -, S_N, -, S_B, -, -, -, -, -, -, -, -, -, -, -, -, -, -, -, -, F_S_ordinal, F_N_ordinal, F_B_ordinal, -, -, F_NS_ordinal, -, -, -⟩ := hW'
  refine own_go (B := s₁.setTop (mkF m 0 #[.val (.ref (A 8))] [])) (fun t k => castTop (ef_1 m (A 8)) k) ?_
  refine own_go (B := s₁.setTop (mkF m 1 #[.val (.ref (A 8))] [(.ref (A 8))])) (fun _ k => XS.aloadN X0.here hx rfl (hb hby d1_0) rfl rfl k) ?_
  obtain ⟨T1, X1, e1, st1⟩ := getS2 X0 hx hZ hown (host := "") (Or.inl (hw _ (List.mem_of_getElem? (i := 30) rfl))) Via.refl e0 (S_S.ext x0) (g := (mkF m 1 #[.val (.ref (A 8))] [(.ref (A 8))])) rfl (hb hby d1_1)
  refine own_go (B := T1.setTop (mkF m 4 #[.val (.ref (A 8))] [(.ref (A 0)), (.ref (A 8))])) st1 ?_
  refine own_go (B := T1.setTop (mkF m 7 #[.val (.ref (A 8))] [])) (fun _ k => Jvm.RoadKit.acmp (g := (mkF m 4 #[.val (.ref (A 8))] [(.ref (A 0)), (.ref (A 8))])) X1 hx rfl rfl rfl (pc0 := 4) (pc' := 7) (same := false) rfl (hb hby d1_4) rfl (decide_eq_false fun q => (own_ne F_NS_ordinal F_S_ordinal (by decide)) (Value.ref.inj q)) (by decide) (by decide) k) ?_
  refine own_go (B := T1.setTop (mkF m 8 #[.val (.ref (A 8))] [(.ref (A 8))])) (fun _ k => XS.aloadN X1.here hx rfl (hb hby d1_7) rfl rfl k) ?_
  obtain ⟨T2, X2, e2, st2⟩ := getS2 X1 hx hZ hown (host := "") (Or.inl (hw _ (List.mem_of_getElem? (i := 31) rfl))) Via.refl e1 (S_N.ext x0) (g := (mkF m 8 #[.val (.ref (A 8))] [(.ref (A 8))])) rfl (hb hby d1_8)
  refine own_go (B := T2.setTop (mkF m 11 #[.val (.ref (A 8))] [(.ref (A 1)), (.ref (A 8))])) st2 ?_
  refine own_go (B := T2.setTop (mkF m 14 #[.val (.ref (A 8))] [])) (fun _ k => Jvm.RoadKit.acmp (g := (mkF m 11 #[.val (.ref (A 8))] [(.ref (A 1)), (.ref (A 8))])) X2 hx rfl rfl rfl (pc0 := 11) (pc' := 14) (same := false) rfl (hb hby d1_11) rfl (decide_eq_false fun q => (own_ne F_NS_ordinal F_N_ordinal (by decide)) (Value.ref.inj q)) (by decide) (by decide) k) ?_
  refine own_go (B := T2.setTop (mkF m 15 #[.val (.ref (A 8))] [(.ref (A 8))])) (fun _ k => XS.aloadN X2.here hx rfl (hb hby d1_14) rfl rfl k) ?_
  obtain ⟨T3, X3, e3, st3⟩ := getS2 X2 hx hZ hown (host := "") (Or.inl (hw _ (List.mem_of_getElem? (i := 32) rfl))) Via.refl e2 (S_B.ext x0) (g := (mkF m 15 #[.val (.ref (A 8))] [(.ref (A 8))])) rfl (hb hby d1_15)
  refine own_go (B := T3.setTop (mkF m 18 #[.val (.ref (A 8))] [(.ref (A 2)), (.ref (A 8))])) st3 ?_
  refine own_go (B := T3.setTop (mkF m 25 #[.val (.ref (A 8))] [])) (fun _ k => Jvm.RoadKit.acmp (g := (mkF m 18 #[.val (.ref (A 8))] [(.ref (A 2)), (.ref (A 8))])) X3 hx rfl rfl rfl (pc0 := 18) (pc' := 25) (same := false) rfl (hb hby d1_18) rfl (decide_eq_false fun q => (own_ne F_NS_ordinal F_B_ordinal (by decide)) (Value.ref.inj q)) (by decide) (by decide) k) ?_
  refine own_go (B := T3.setTop (mkF m 26 #[.val (.ref (A 8))] [(.int (0 : Int32))])) (fun _ k => XT.iconstV X3.here hx rfl (0 : Int32) (hb hby d1_25) rfl k) ?_
  exact own_ret X3 hx (t := .boolean) hrt rfl (Or.inl ⟨rfl, by simp, _, rfl⟩) (hb hby d1_26) hlk ⟨rfl, N0, e3⟩ (by decide) (by decide)
set_option maxRecDepth 65536 in
set_option maxHeartbeats 40000000 in
theorem rm1_9 (l : Launch) (Z : State) (a0 : Array Value) (hw : ∀ d ∈ tables_1, d.before a0 Z = true) (ws : List Jvm.Cond)  (A : Nat → Addr) (hW : own_W Z A) (h0 : Heap) (x0 : Ext Z.heap h0)  :
    own_Met l Z (⟨"com/example/facet/facet/model/AttributeType", "isKeyType", "()Z"⟩ : MethodName) prog_18_method_6_code 1 (some .boolean) ws ({ frames := 0, cells := 0, slots := 0, locals := 0 } : Room) #[(.ref (A 9))] h0 (fun v_ h_ L_ => v_ = some (.int (0 : Int32)) ∧ Fr Z.heap.size L_ ∧ h_ = h0) := by
  refine own_body (plainFor_of_name pn_1) fun p e s m below meth c s₁ hx hby hml hown hnm hlk hrt hZ X0 e0 => ?_
  have N0 := Fr.nil Z.heap.size
  have hW' := hW
  obtain ⟨S_S, -, S_N, -, S_B, -, -, -, -, -, -, -, -, -, -, -, -, -, -, -, -, F_S_ordinal, F_N_ordinal, F_B_ordinal, -, -, -, F_BS_ordinal, -, -⟩ := hW'
  refine own_go (B := s₁.setTop (mkF m 0 #[.val (.ref (A 9))] [])) (fun t k => castTop (ef_1 m (A 9)) k) ?_
  refine own_go (B := s₁.setTop (mkF m 1 #[.val (.ref (A 9))] [(.ref (A 9))])) (fun _ k => XS.aloadN X0.here hx rfl (hb hby d1_0) rfl rfl k) ?_
  obtain ⟨T1, X1, e1, st1⟩ := getS2 X0 hx hZ hown (host := "") (Or.inl (hw _ (List.mem_of_getElem? (i := 30) rfl))) Via.refl e0 (S_S.ext x0) (g := (mkF m 1 #[.val (.ref (A 9))] [(.ref (A 9))])) rfl (hb hby d1_1)
  refine own_go (B := T1.setTop (mkF m 4 #[.val (.ref (A 9))] [(.ref (A 0)), (.ref (A 9))])) st1 ?_
  refine own_go (B := T1.setTop (mkF m 7 #[.val (.ref (A 9))] [])) (fun _ k => Jvm.RoadKit.acmp (g := (mkF m 4 #[.val (.ref (A 9))] [(.ref (A 0)), (.ref (A 9))])) X1 hx rfl rfl rfl (pc0 := 4) (pc' := 7) (same := false) rfl (hb hby d1_4) rfl (decide_eq_false fun q => (own_ne F_BS_ordinal F_S_ordinal (by decide)) (Value.ref.inj q)) (by decide) (by decide) k) ?_
  refine own_go (B := T1.setTop (mkF m 8 #[.val (.ref (A 9))] [(.ref (A 9))])) (fun _ k => XS.aloadN X1.here hx rfl (hb hby d1_7) rfl rfl k) ?_
  obtain ⟨T2, X2, e2, st2⟩ := getS2 X1 hx hZ hown (host := "") (Or.inl (hw _ (List.mem_of_getElem? (i := 31) rfl))) Via.refl e1 (S_N.ext x0) (g := (mkF m 8 #[.val (.ref (A 9))] [(.ref (A 9))])) rfl (hb hby d1_8)
  refine own_go (B := T2.setTop (mkF m 11 #[.val (.ref (A 9))] [(.ref (A 1)), (.ref (A 9))])) st2 ?_
  refine own_go (B := T2.setTop (mkF m 14 #[.val (.ref (A 9))] [])) (fun _ k => Jvm.RoadKit.acmp (g := (mkF m 11 #[.val (.ref (A 9))] [(.ref (A 1)), (.ref (A 9))])) X2 hx rfl rfl rfl (pc0 := 11) (pc' := 14) (same := false) rfl (hb hby d1_11) rfl (decide_eq_false fun q => (own_ne F_BS_ordinal F_N_ordinal (by decide)) (Value.ref.inj q)) (by decide) (by decide) k) ?_
  refine own_go (B := T2.setTop (mkF m 15 #[.val (.ref (A 9))] [(.ref (A 9))])) (fun _ k => XS.aloadN X2.here hx rfl (hb hby d1_14) rfl rfl k) ?_
  obtain ⟨T3, X3, e3, st3⟩ := getS2 X2 hx hZ hown (host := "") (Or.inl (hw _ (List.mem_of_getElem? (i := 32) rfl))) Via.refl e2 (S_B.ext x0) (g := (mkF m 15 #[.val (.ref (A 9))] [(.ref (A 9))])) rfl (hb hby d1_15)
  refine own_go (B := T3.setTop (mkF m 18 #[.val (.ref (A 9))] [(.ref (A 2)), (.ref (A 9))])) st3 ?_
  refine own_go (B := T3.setTop (mkF m 25 #[.val (.ref (A 9))] [])) (fun _ k => Jvm.RoadKit.acmp (g := (mkF m 18 #[.val (.ref (A 9))] [(.ref (A 2)), (.ref (A 9))])) X3 hx rfl rfl rfl (pc0 := 18) (pc' := 25) (same := false) rfl (hb hby d1_18) rfl (decide_eq_false fun q => (own_ne F_BS_ordinal F_B_ordinal (by decide)) (Value.ref.inj q)) (by decide) (by decide) k) ?_
  refine own_go (B := T3.setTop (mkF m 26 #[.val (.ref (A 9))] [(.int (0 : Int32))])) (fun _ k => XT.iconstV X3.here hx rfl (0 : Int32) (hb hby d1_25) rfl k) ?_
  exact own_ret X3 hx (t := .boolean) hrt rfl (Or.inl ⟨rfl, by simp, _, rfl⟩) (hb hby d1_26) hlk ⟨rfl, N0, e3⟩ (by decide) (by decide)
set_option maxRecDepth 65536 in
set_option maxHeartbeats 40000000 in
theorem rm0 (l : Launch) (Z : State) (a0 : Array Value) (hw : ∀ d ∈ tables_1, d.before a0 Z = true) (ws : List Jvm.Cond) (p0 : Int32) (A : Nat → Addr) (hW : own_W Z A) (h0 : Heap) (x0 : Ext Z.heap h0)  :
    own_Met l Z x code maxLocals ret ws room_1 #[(.int p0)] h0 (fun v_ h_ L_ => v_ = some (.int (1 : Int32)) ∧ Fr Z.heap.size L_) := by
  refine own_body (plainFor_of_name pn_0) fun p e s m below meth c s₁ hx hby hml hown hnm hlk hrt hZ X0 e0 => ?_
  have N0 := Fr.nil Z.heap.size
  have hW' := hW
  obtain ⟨S_S, E_S, S_N, E_N, S_B, E_B, S_BOOL, E_BOOL, S_NULL, E_NULL, S_M, E_M, S_L, E_L, S_SS, E_SS, S_NS, E_NS, S_BS, E_BS, -, -, -, -, -, -, -, -, -, -⟩ := hW'
  refine own_go (B := s₁.setTop (mkF m 0 #[.val (.int p0), .unset, .unset, .unset] [])) (fun t k => castTop (ef_0 m p0) k) ?_
  refine own_go (B := s₁.setTop (mkF m 1 #[.val (.int p0), .unset, .unset, .unset] [(.int p0)])) (fun _ k => XS.iloadN X0.here hx rfl (hb hby at_0) rfl k) ?_
  refine own_go (B := s₁.setTop (mkF m 3 #[.val (.int p0), .unset, .unset, .unset] [(.int (2147483647 : Int32)), (.int p0)])) (fun _ k => Jvm.Stand.ldcI X0 hx hown (mvT hZ (hw _ (List.mem_of_getElem? (i := 0) rfl))) (g := (mkF m 1 #[.val (.int p0), .unset, .unset, .unset] [(.int p0)])) rfl (hb hby at_1) k) ?_
  refine own_go (B := s₁.setTop (mkF m 4 #[.val (.int p0), .unset, .unset, .unset] [(.int (p0 &&& (2147483647 : Int32)))])) (fun _ k => XS.iand X0.here hx rfl (hb hby at_3) rfl k) ?_
  refine own_go (B := s₁.setTop (mkF m 6 #[.val (.int p0), .unset, .unset, .unset] [(.int (10 : Int32)), (.int (p0 &&& (2147483647 : Int32)))])) (fun _ k => XT.bipushV X0.here hx rfl (10 : Int32) (hb hby at_4) (by decide) k) ?_
  refine own_go (B := s₁.setTop (mkF m 7 #[.val (.int p0), .unset, .unset, .unset] [(.int ((p0 &&& (2147483647 : Int32)) % (10 : Int32)))])) (fun _ k => iremM (g := (mkF m 6 #[.val (.int p0), .unset, .unset, .unset] [(.int (10 : Int32)), (.int (p0 &&& (2147483647 : Int32)))])) X0 hx rfl (hb hby at_6) rfl (by decide) k) ?_
  refine own_go (B := s₁.setTop (mkF m 8 #[.val (.int p0), .val (.int ((p0 &&& (2147483647 : Int32)) % (10 : Int32))), .unset, .unset] [])) (fun _ k => XS.istoreN X0.here hx rfl (hb hby at_7) rfl (l' := #[.val (.int p0), .val (.int ((p0 &&& (2147483647 : Int32)) % (10 : Int32))), .unset, .unset]) rfl k) ?_
  refine own_go (B := s₁.setTop (mkF m 10 #[.val (.int p0), .val (.int ((p0 &&& (2147483647 : Int32)) % (10 : Int32))), .unset, .unset] [(.int (10 : Int32))])) (fun _ k => XT.bipushV X0.here hx rfl (10 : Int32) (hb hby at_8) (by decide) k) ?_
  obtain ⟨T1, h1, k1, X1, e1, E1, A1, O1, st1⟩ := newR X0 hx hZ hown (hw _ (List.mem_of_getElem? (i := 1) rfl)) (hw _ (List.mem_of_getElem? (i := 2) rfl)) e0 (g := (mkF m 10 #[.val (.int p0), .val (.int ((p0 &&& (2147483647 : Int32)) % (10 : Int32))), .unset, .unset] [(.int (10 : Int32))])) rfl (hb hby at_10) rfl (by decide) (cap := 10) (by decide) (by decide) (by decide) (by decide)
  obtain ⟨b1, g1⟩ : ∃ z, z = h0.size := ⟨_, rfl⟩
  rw [← g1] at A1 st1
  have V1 : Arv Z h1 b1 k1 (.object "com/example/facet/facet/model/AttributeType") (10 : Int32) [.null, .null, .null, .null, .null, .null, .null, .null, .null, .null] .null := (Arv.new A1 (by decide)).pad (pad_rep [] .null 10)
  have x1 : Ext Z.heap h1 := own_xt x0 E1
  have q1 : Z.heap.size ≤ b1 := Nat.le_trans x0.1 (Nat.le_of_eq g1.symm)
  refine own_go (B := T1.setTop (mkF m 13 #[.val (.int p0), .val (.int ((p0 &&& (2147483647 : Int32)) % (10 : Int32))), .unset, .unset] [(.ref b1)])) st1 ?_
  refine own_go (B := T1.setTop (mkF m 14 #[.val (.int p0), .val (.int ((p0 &&& (2147483647 : Int32)) % (10 : Int32))), .unset, .unset] [(.ref b1), (.ref b1)])) (fun _ k => XS.dup X1.here hx rfl (hb hby at_13) rfl rfl k) ?_
  refine own_go (B := T1.setTop (mkF m 15 #[.val (.int p0), .val (.int ((p0 &&& (2147483647 : Int32)) % (10 : Int32))), .unset, .unset] [(.int (0 : Int32)), (.ref b1), (.ref b1)])) (fun _ k => XT.iconstV X1.here hx rfl (0 : Int32) (hb hby at_14) rfl k) ?_
  obtain ⟨T2, X2, e2, st2⟩ := getS2 X1 hx hZ hown (host := "") (Or.inl (hw _ (List.mem_of_getElem? (i := 3) rfl))) Via.refl e1 (S_S.ext x1) (g := (mkF m 15 #[.val (.int p0), .val (.int ((p0 &&& (2147483647 : Int32)) % (10 : Int32))), .unset, .unset] [(.int (0 : Int32)), (.ref b1), (.ref b1)])) rfl (hb hby at_15)
  refine own_go (B := T2.setTop (mkF m 18 #[.val (.int p0), .val (.int ((p0 &&& (2147483647 : Int32)) % (10 : Int32))), .unset, .unset] [(.ref (A 0)), (.int (0 : Int32)), (.ref b1), (.ref b1)])) st2 ?_
  obtain ⟨cl3, Ar3, q3a, q3b, q3c, q3d, q3e⟩ := V1
  obtain ⟨T3, h3, X3, e3, W3, st3⟩ := stR X2 hx hZ e2 Ar3 (j := (0 : Int32)) (inb_of q3b ⟨by decide, by decide⟩) rfl (Sto.ofV Ar3 q3a O1 (Ins.self (E_S.ext x1))) (g := (mkF m 18 #[.val (.int p0), .val (.int ((p0 &&& (2147483647 : Int32)) % (10 : Int32))), .unset, .unset] [(.ref (A 0)), (.int (0 : Int32)), (.ref b1), (.ref b1)])) rfl rfl (hb hby at_18)
  have V3 : Arv Z h3 b1 k1 (.object "com/example/facet/facet/model/AttributeType") (10 : Int32) [.ref (A 0), .null, .null, .null, .null, .null, .null, .null, .null, .null] .null := Arv.set Ar3 q3a q3b q3c q3d q3e rfl W3 0 rfl (Nat.le_of_ble_eq_true rfl)
  have x3 : Ext Z.heap h3 := own_xw x1 W3 q1
  have N3 := Fr.snoc X3 N0 q1
  refine own_go (B := T3.setTop (mkF m 19 #[.val (.int p0), .val (.int ((p0 &&& (2147483647 : Int32)) % (10 : Int32))), .unset, .unset] [(.ref b1)])) st3 ?_
  refine own_go (B := T3.setTop (mkF m 20 #[.val (.int p0), .val (.int ((p0 &&& (2147483647 : Int32)) % (10 : Int32))), .unset, .unset] [(.ref b1), (.ref b1)])) (fun _ k => XS.dup X3.here hx rfl (hb hby at_19) rfl rfl k) ?_
  refine own_go (B := T3.setTop (mkF m 21 #[.val (.int p0), .val (.int ((p0 &&& (2147483647 : Int32)) % (10 : Int32))), .unset, .unset] [(.int (1 : Int32)), (.ref b1), (.ref b1)])) (fun _ k => XT.iconstV X3.here hx rfl (1 : Int32) (hb hby at_20) rfl k) ?_
  obtain ⟨T4, X4, e4, st4⟩ := getS2 X3 hx hZ hown (host := "") (Or.inl (hw _ (List.mem_of_getElem? (i := 7) rfl))) Via.refl e3 (S_N.ext x3) (g := (mkF m 21 #[.val (.int p0), .val (.int ((p0 &&& (2147483647 : Int32)) % (10 : Int32))), .unset, .unset] [(.int (1 : Int32)), (.ref b1), (.ref b1)])) rfl (hb hby at_21)
  refine own_go (B := T4.setTop (mkF m 24 #[.val (.int p0), .val (.int ((p0 &&& (2147483647 : Int32)) % (10 : Int32))), .unset, .unset] [(.ref (A 1)), (.int (1 : Int32)), (.ref b1), (.ref b1)])) st4 ?_
  obtain ⟨cl5, Ar5, q5a, q5b, q5c, q5d, q5e⟩ := V3
  obtain ⟨T5, h5, X5, e5, W5, st5⟩ := stR X4 hx hZ e4 Ar5 (j := (1 : Int32)) (inb_of q5b ⟨by decide, by decide⟩) rfl (Sto.ofV Ar5 q5a O1 (Ins.self (E_N.ext x3))) (g := (mkF m 24 #[.val (.int p0), .val (.int ((p0 &&& (2147483647 : Int32)) % (10 : Int32))), .unset, .unset] [(.ref (A 1)), (.int (1 : Int32)), (.ref b1), (.ref b1)])) rfl rfl (hb hby at_24)
  have V5 : Arv Z h5 b1 k1 (.object "com/example/facet/facet/model/AttributeType") (10 : Int32) [.ref (A 0), .ref (A 1), .null, .null, .null, .null, .null, .null, .null, .null] .null := Arv.set Ar5 q5a q5b q5c q5d q5e rfl W5 1 rfl (Nat.le_of_ble_eq_true rfl)
  have x5 : Ext Z.heap h5 := own_xw x3 W5 q1
  have N5 := Fr.snoc X5 N3 q1
  refine own_go (B := T5.setTop (mkF m 25 #[.val (.int p0), .val (.int ((p0 &&& (2147483647 : Int32)) % (10 : Int32))), .unset, .unset] [(.ref b1)])) st5 ?_
  refine own_go (B := T5.setTop (mkF m 26 #[.val (.int p0), .val (.int ((p0 &&& (2147483647 : Int32)) % (10 : Int32))), .unset, .unset] [(.ref b1), (.ref b1)])) (fun _ k => XS.dup X5.here hx rfl (hb hby at_25) rfl rfl k) ?_
  refine own_go (B := T5.setTop (mkF m 27 #[.val (.int p0), .val (.int ((p0 &&& (2147483647 : Int32)) % (10 : Int32))), .unset, .unset] [(.int (2 : Int32)), (.ref b1), (.ref b1)])) (fun _ k => XT.iconstV X5.here hx rfl (2 : Int32) (hb hby at_26) rfl k) ?_
  obtain ⟨T6, X6, e6, st6⟩ := getS2 X5 hx hZ hown (host := "") (Or.inl (hw _ (List.mem_of_getElem? (i := 9) rfl))) Via.refl e5 (S_B.ext x5) (g := (mkF m 27 #[.val (.int p0), .val (.int ((p0 &&& (2147483647 : Int32)) % (10 : Int32))), .unset, .unset] [(.int (2 : Int32)), (.ref b1), (.ref b1)])) rfl (hb hby at_27)
  refine own_go (B := T6.setTop (mkF m 30 #[.val (.int p0), .val (.int ((p0 &&& (2147483647 : Int32)) % (10 : Int32))), .unset, .unset] [(.ref (A 2)), (.int (2 : Int32)), (.ref b1), (.ref b1)])) st6 ?_
  obtain ⟨cl7, Ar7, q7a, q7b, q7c, q7d, q7e⟩ := V5
  obtain ⟨T7, h7, X7, e7, W7, st7⟩ := stR X6 hx hZ e6 Ar7 (j := (2 : Int32)) (inb_of q7b ⟨by decide, by decide⟩) rfl (Sto.ofV Ar7 q7a O1 (Ins.self (E_B.ext x5))) (g := (mkF m 30 #[.val (.int p0), .val (.int ((p0 &&& (2147483647 : Int32)) % (10 : Int32))), .unset, .unset] [(.ref (A 2)), (.int (2 : Int32)), (.ref b1), (.ref b1)])) rfl rfl (hb hby at_30)
  have V7 : Arv Z h7 b1 k1 (.object "com/example/facet/facet/model/AttributeType") (10 : Int32) [.ref (A 0), .ref (A 1), .ref (A 2), .null, .null, .null, .null, .null, .null, .null] .null := Arv.set Ar7 q7a q7b q7c q7d q7e rfl W7 2 rfl (Nat.le_of_ble_eq_true rfl)
  have x7 : Ext Z.heap h7 := own_xw x5 W7 q1
  have N7 := Fr.snoc X7 N5 q1
  refine own_go (B := T7.setTop (mkF m 31 #[.val (.int p0), .val (.int ((p0 &&& (2147483647 : Int32)) % (10 : Int32))), .unset, .unset] [(.ref b1)])) st7 ?_
  refine own_go (B := T7.setTop (mkF m 32 #[.val (.int p0), .val (.int ((p0 &&& (2147483647 : Int32)) % (10 : Int32))), .unset, .unset] [(.ref b1), (.ref b1)])) (fun _ k => XS.dup X7.here hx rfl (hb hby at_31) rfl rfl k) ?_
  refine own_go (B := T7.setTop (mkF m 33 #[.val (.int p0), .val (.int ((p0 &&& (2147483647 : Int32)) % (10 : Int32))), .unset, .unset] [(.int (3 : Int32)), (.ref b1), (.ref b1)])) (fun _ k => XT.iconstV X7.here hx rfl (3 : Int32) (hb hby at_32) rfl k) ?_
  obtain ⟨T8, X8, e8, st8⟩ := getS2 X7 hx hZ hown (host := "") (Or.inl (hw _ (List.mem_of_getElem? (i := 11) rfl))) Via.refl e7 (S_BOOL.ext x7) (g := (mkF m 33 #[.val (.int p0), .val (.int ((p0 &&& (2147483647 : Int32)) % (10 : Int32))), .unset, .unset] [(.int (3 : Int32)), (.ref b1), (.ref b1)])) rfl (hb hby at_33)
  refine own_go (B := T8.setTop (mkF m 36 #[.val (.int p0), .val (.int ((p0 &&& (2147483647 : Int32)) % (10 : Int32))), .unset, .unset] [(.ref (A 3)), (.int (3 : Int32)), (.ref b1), (.ref b1)])) st8 ?_
  obtain ⟨cl9, Ar9, q9a, q9b, q9c, q9d, q9e⟩ := V7
  obtain ⟨T9, h9, X9, e9, W9, st9⟩ := stR X8 hx hZ e8 Ar9 (j := (3 : Int32)) (inb_of q9b ⟨by decide, by decide⟩) rfl (Sto.ofV Ar9 q9a O1 (Ins.self (E_BOOL.ext x7))) (g := (mkF m 36 #[.val (.int p0), .val (.int ((p0 &&& (2147483647 : Int32)) % (10 : Int32))), .unset, .unset] [(.ref (A 3)), (.int (3 : Int32)), (.ref b1), (.ref b1)])) rfl rfl (hb hby at_36)
  have V9 : Arv Z h9 b1 k1 (.object "com/example/facet/facet/model/AttributeType") (10 : Int32) [.ref (A 0), .ref (A 1), .ref (A 2), .ref (A 3), .null, .null, .null, .null, .null, .null] .null := Arv.set Ar9 q9a q9b q9c q9d q9e rfl W9 3 rfl (Nat.le_of_ble_eq_true rfl)
  have x9 : Ext Z.heap h9 := own_xw x7 W9 q1
  have N9 := Fr.snoc X9 N7 q1
  refine own_go (B := T9.setTop (mkF m 37 #[.val (.int p0), .val (.int ((p0 &&& (2147483647 : Int32)) % (10 : Int32))), .unset, .unset] [(.ref b1)])) st9 ?_
  refine own_go (B := T9.setTop (mkF m 38 #[.val (.int p0), .val (.int ((p0 &&& (2147483647 : Int32)) % (10 : Int32))), .unset, .unset] [(.ref b1), (.ref b1)])) (fun _ k => XS.dup X9.here hx rfl (hb hby at_37) rfl rfl k) ?_
  refine own_go (B := T9.setTop (mkF m 39 #[.val (.int p0), .val (.int ((p0 &&& (2147483647 : Int32)) % (10 : Int32))), .unset, .unset] [(.int (4 : Int32)), (.ref b1), (.ref b1)])) (fun _ k => XT.iconstV X9.here hx rfl (4 : Int32) (hb hby at_38) rfl k) ?_
  obtain ⟨T10, X10, e10, st10⟩ := getS2 X9 hx hZ hown (host := "") (Or.inl (hw _ (List.mem_of_getElem? (i := 13) rfl))) Via.refl e9 (S_NULL.ext x9) (g := (mkF m 39 #[.val (.int p0), .val (.int ((p0 &&& (2147483647 : Int32)) % (10 : Int32))), .unset, .unset] [(.int (4 : Int32)), (.ref b1), (.ref b1)])) rfl (hb hby at_39)
  refine own_go (B := T10.setTop (mkF m 42 #[.val (.int p0), .val (.int ((p0 &&& (2147483647 : Int32)) % (10 : Int32))), .unset, .unset] [(.ref (A 4)), (.int (4 : Int32)), (.ref b1), (.ref b1)])) st10 ?_
  obtain ⟨cl11, Ar11, q11a, q11b, q11c, q11d, q11e⟩ := V9
  obtain ⟨T11, h11, X11, e11, W11, st11⟩ := stR X10 hx hZ e10 Ar11 (j := (4 : Int32)) (inb_of q11b ⟨by decide, by decide⟩) rfl (Sto.ofV Ar11 q11a O1 (Ins.self (E_NULL.ext x9))) (g := (mkF m 42 #[.val (.int p0), .val (.int ((p0 &&& (2147483647 : Int32)) % (10 : Int32))), .unset, .unset] [(.ref (A 4)), (.int (4 : Int32)), (.ref b1), (.ref b1)])) rfl rfl (hb hby at_42)
  have V11 : Arv Z h11 b1 k1 (.object "com/example/facet/facet/model/AttributeType") (10 : Int32) [.ref (A 0), .ref (A 1), .ref (A 2), .ref (A 3), .ref (A 4), .null, .null, .null, .null, .null] .null := Arv.set Ar11 q11a q11b q11c q11d q11e rfl W11 4 rfl (Nat.le_of_ble_eq_true rfl)
  have x11 : Ext Z.heap h11 := own_xw x9 W11 q1
  have N11 := Fr.snoc X11 N9 q1
  refine own_go (B := T11.setTop (mkF m 43 #[.val (.int p0), .val (.int ((p0 &&& (2147483647 : Int32)) % (10 : Int32))), .unset, .unset] [(.ref b1)])) st11 ?_
  refine own_go (B := T11.setTop (mkF m 44 #[.val (.int p0), .val (.int ((p0 &&& (2147483647 : Int32)) % (10 : Int32))), .unset, .unset] [(.ref b1), (.ref b1)])) (fun _ k => XS.dup X11.here hx rfl (hb hby at_43) rfl rfl k) ?_
  refine own_go (B := T11.setTop (mkF m 45 #[.val (.int p0), .val (.int ((p0 &&& (2147483647 : Int32)) % (10 : Int32))), .unset, .unset] [(.int (5 : Int32)), (.ref b1), (.ref b1)])) (fun _ k => XT.iconstV X11.here hx rfl (5 : Int32) (hb hby at_44) rfl k) ?_
  obtain ⟨T12, X12, e12, st12⟩ := getS2 X11 hx hZ hown (host := "") (Or.inl (hw _ (List.mem_of_getElem? (i := 15) rfl))) Via.refl e11 (S_M.ext x11) (g := (mkF m 45 #[.val (.int p0), .val (.int ((p0 &&& (2147483647 : Int32)) % (10 : Int32))), .unset, .unset] [(.int (5 : Int32)), (.ref b1), (.ref b1)])) rfl (hb hby at_45)
  refine own_go (B := T12.setTop (mkF m 48 #[.val (.int p0), .val (.int ((p0 &&& (2147483647 : Int32)) % (10 : Int32))), .unset, .unset] [(.ref (A 5)), (.int (5 : Int32)), (.ref b1), (.ref b1)])) st12 ?_
  obtain ⟨cl13, Ar13, q13a, q13b, q13c, q13d, q13e⟩ := V11
  obtain ⟨T13, h13, X13, e13, W13, st13⟩ := stR X12 hx hZ e12 Ar13 (j := (5 : Int32)) (inb_of q13b ⟨by decide, by decide⟩) rfl (Sto.ofV Ar13 q13a O1 (Ins.self (E_M.ext x11))) (g := (mkF m 48 #[.val (.int p0), .val (.int ((p0 &&& (2147483647 : Int32)) % (10 : Int32))), .unset, .unset] [(.ref (A 5)), (.int (5 : Int32)), (.ref b1), (.ref b1)])) rfl rfl (hb hby at_48)
  have V13 : Arv Z h13 b1 k1 (.object "com/example/facet/facet/model/AttributeType") (10 : Int32) [.ref (A 0), .ref (A 1), .ref (A 2), .ref (A 3), .ref (A 4), .ref (A 5), .null, .null, .null, .null] .null := Arv.set Ar13 q13a q13b q13c q13d q13e rfl W13 5 rfl (Nat.le_of_ble_eq_true rfl)
  have x13 : Ext Z.heap h13 := own_xw x11 W13 q1
  have N13 := Fr.snoc X13 N11 q1
  refine own_go (B := T13.setTop (mkF m 49 #[.val (.int p0), .val (.int ((p0 &&& (2147483647 : Int32)) % (10 : Int32))), .unset, .unset] [(.ref b1)])) st13 ?_
  refine own_go (B := T13.setTop (mkF m 50 #[.val (.int p0), .val (.int ((p0 &&& (2147483647 : Int32)) % (10 : Int32))), .unset, .unset] [(.ref b1), (.ref b1)])) (fun _ k => XS.dup X13.here hx rfl (hb hby at_49) rfl rfl k) ?_
  refine own_go (B := T13.setTop (mkF m 52 #[.val (.int p0), .val (.int ((p0 &&& (2147483647 : Int32)) % (10 : Int32))), .unset, .unset] [(.int (6 : Int32)), (.ref b1), (.ref b1)])) (fun _ k => XT.bipushV X13.here hx rfl (6 : Int32) (hb hby at_50) (by decide) k) ?_
  obtain ⟨T14, X14, e14, st14⟩ := getS2 X13 hx hZ hown (host := "") (Or.inl (hw _ (List.mem_of_getElem? (i := 17) rfl))) Via.refl e13 (S_L.ext x13) (g := (mkF m 52 #[.val (.int p0), .val (.int ((p0 &&& (2147483647 : Int32)) % (10 : Int32))), .unset, .unset] [(.int (6 : Int32)), (.ref b1), (.ref b1)])) rfl (hb hby at_52)
  refine own_go (B := T14.setTop (mkF m 55 #[.val (.int p0), .val (.int ((p0 &&& (2147483647 : Int32)) % (10 : Int32))), .unset, .unset] [(.ref (A 6)), (.int (6 : Int32)), (.ref b1), (.ref b1)])) st14 ?_
  obtain ⟨cl15, Ar15, q15a, q15b, q15c, q15d, q15e⟩ := V13
  obtain ⟨T15, h15, X15, e15, W15, st15⟩ := stR X14 hx hZ e14 Ar15 (j := (6 : Int32)) (inb_of q15b ⟨by decide, by decide⟩) rfl (Sto.ofV Ar15 q15a O1 (Ins.self (E_L.ext x13))) (g := (mkF m 55 #[.val (.int p0), .val (.int ((p0 &&& (2147483647 : Int32)) % (10 : Int32))), .unset, .unset] [(.ref (A 6)), (.int (6 : Int32)), (.ref b1), (.ref b1)])) rfl rfl (hb hby at_55)
  have V15 : Arv Z h15 b1 k1 (.object "com/example/facet/facet/model/AttributeType") (10 : Int32) [.ref (A 0), .ref (A 1), .ref (A 2), .ref (A 3), .ref (A 4), .ref (A 5), .ref (A 6), .null, .null, .null] .null := Arv.set Ar15 q15a q15b q15c q15d q15e rfl W15 6 rfl (Nat.le_of_ble_eq_true rfl)
  have x15 : Ext Z.heap h15 := own_xw x13 W15 q1
  have N15 := Fr.snoc X15 N13 q1
  refine own_go (B := T15.setTop (mkF m 56 #[.val (.int p0), .val (.int ((p0 &&& (2147483647 : Int32)) % (10 : Int32))), .unset, .unset] [(.ref b1)])) st15 ?_
  refine own_go (B := T15.setTop (mkF m 57 #[.val (.int p0), .val (.int ((p0 &&& (2147483647 : Int32)) % (10 : Int32))), .unset, .unset] [(.ref b1), (.ref b1)])) (fun _ k => XS.dup X15.here hx rfl (hb hby at_56) rfl rfl k) ?_
  refine own_go (B := T15.setTop (mkF m 59 #[.val (.int p0), .val (.int ((p0 &&& (2147483647 : Int32)) % (10 : Int32))), .unset, .unset] [(.int (7 : Int32)), (.ref b1), (.ref b1)])) (fun _ k => XT.bipushV X15.here hx rfl (7 : Int32) (hb hby at_57) (by decide) k) ?_
  obtain ⟨T16, X16, e16, st16⟩ := getS2 X15 hx hZ hown (host := "") (Or.inl (hw _ (List.mem_of_getElem? (i := 19) rfl))) Via.refl e15 (S_SS.ext x15) (g := (mkF m 59 #[.val (.int p0), .val (.int ((p0 &&& (2147483647 : Int32)) % (10 : Int32))), .unset, .unset] [(.int (7 : Int32)), (.ref b1), (.ref b1)])) rfl (hb hby at_59)
  refine own_go (B := T16.setTop (mkF m 62 #[.val (.int p0), .val (.int ((p0 &&& (2147483647 : Int32)) % (10 : Int32))), .unset, .unset] [(.ref (A 7)), (.int (7 : Int32)), (.ref b1), (.ref b1)])) st16 ?_
  obtain ⟨cl17, Ar17, q17a, q17b, q17c, q17d, q17e⟩ := V15
  obtain ⟨T17, h17, X17, e17, W17, st17⟩ := stR X16 hx hZ e16 Ar17 (j := (7 : Int32)) (inb_of q17b ⟨by decide, by decide⟩) rfl (Sto.ofV Ar17 q17a O1 (Ins.self (E_SS.ext x15))) (g := (mkF m 62 #[.val (.int p0), .val (.int ((p0 &&& (2147483647 : Int32)) % (10 : Int32))), .unset, .unset] [(.ref (A 7)), (.int (7 : Int32)), (.ref b1), (.ref b1)])) rfl rfl (hb hby at_62)
  have V17 : Arv Z h17 b1 k1 (.object "com/example/facet/facet/model/AttributeType") (10 : Int32) [.ref (A 0), .ref (A 1), .ref (A 2), .ref (A 3), .ref (A 4), .ref (A 5), .ref (A 6), .ref (A 7), .null, .null] .null := Arv.set Ar17 q17a q17b q17c q17d q17e rfl W17 7 rfl (Nat.le_of_ble_eq_true rfl)
  have x17 : Ext Z.heap h17 := own_xw x15 W17 q1
  have N17 := Fr.snoc X17 N15 q1
  refine own_go (B := T17.setTop (mkF m 63 #[.val (.int p0), .val (.int ((p0 &&& (2147483647 : Int32)) % (10 : Int32))), .unset, .unset] [(.ref b1)])) st17 ?_
  refine own_go (B := T17.setTop (mkF m 64 #[.val (.int p0), .val (.int ((p0 &&& (2147483647 : Int32)) % (10 : Int32))), .unset, .unset] [(.ref b1), (.ref b1)])) (fun _ k => XS.dup X17.here hx rfl (hb hby at_63) rfl rfl k) ?_
  refine own_go (B := T17.setTop (mkF m 66 #[.val (.int p0), .val (.int ((p0 &&& (2147483647 : Int32)) % (10 : Int32))), .unset, .unset] [(.int (8 : Int32)), (.ref b1), (.ref b1)])) (fun _ k => XT.bipushV X17.here hx rfl (8 : Int32) (hb hby at_64) (by decide) k) ?_
  obtain ⟨T18, X18, e18, st18⟩ := getS2 X17 hx hZ hown (host := "") (Or.inl (hw _ (List.mem_of_getElem? (i := 21) rfl))) Via.refl e17 (S_NS.ext x17) (g := (mkF m 66 #[.val (.int p0), .val (.int ((p0 &&& (2147483647 : Int32)) % (10 : Int32))), .unset, .unset] [(.int (8 : Int32)), (.ref b1), (.ref b1)])) rfl (hb hby at_66)
  refine own_go (B := T18.setTop (mkF m 69 #[.val (.int p0), .val (.int ((p0 &&& (2147483647 : Int32)) % (10 : Int32))), .unset, .unset] [(.ref (A 8)), (.int (8 : Int32)), (.ref b1), (.ref b1)])) st18 ?_
  obtain ⟨cl19, Ar19, q19a, q19b, q19c, q19d, q19e⟩ := V17
  obtain ⟨T19, h19, X19, e19, W19, st19⟩ := stR X18 hx hZ e18 Ar19 (j := (8 : Int32)) (inb_of q19b ⟨by decide, by decide⟩) rfl (Sto.ofV Ar19 q19a O1 (Ins.self (E_NS.ext x17))) (g := (mkF m 69 #[.val (.int p0), .val (.int ((p0 &&& (2147483647 : Int32)) % (10 : Int32))), .unset, .unset] [(.ref (A 8)), (.int (8 : Int32)), (.ref b1), (.ref b1)])) rfl rfl (hb hby at_69)
  have V19 : Arv Z h19 b1 k1 (.object "com/example/facet/facet/model/AttributeType") (10 : Int32) [.ref (A 0), .ref (A 1), .ref (A 2), .ref (A 3), .ref (A 4), .ref (A 5), .ref (A 6), .ref (A 7), .ref (A 8), .null] .null := Arv.set Ar19 q19a q19b q19c q19d q19e rfl W19 8 rfl (Nat.le_of_ble_eq_true rfl)
  have x19 : Ext Z.heap h19 := own_xw x17 W19 q1
  have N19 := Fr.snoc X19 N17 q1
  refine own_go (B := T19.setTop (mkF m 70 #[.val (.int p0), .val (.int ((p0 &&& (2147483647 : Int32)) % (10 : Int32))), .unset, .unset] [(.ref b1)])) st19 ?_
  refine own_go (B := T19.setTop (mkF m 71 #[.val (.int p0), .val (.int ((p0 &&& (2147483647 : Int32)) % (10 : Int32))), .unset, .unset] [(.ref b1), (.ref b1)])) (fun _ k => XS.dup X19.here hx rfl (hb hby at_70) rfl rfl k) ?_
  refine own_go (B := T19.setTop (mkF m 73 #[.val (.int p0), .val (.int ((p0 &&& (2147483647 : Int32)) % (10 : Int32))), .unset, .unset] [(.int (9 : Int32)), (.ref b1), (.ref b1)])) (fun _ k => XT.bipushV X19.here hx rfl (9 : Int32) (hb hby at_71) (by decide) k) ?_
  obtain ⟨T20, X20, e20, st20⟩ := getS2 X19 hx hZ hown (host := "") (Or.inl (hw _ (List.mem_of_getElem? (i := 23) rfl))) Via.refl e19 (S_BS.ext x19) (g := (mkF m 73 #[.val (.int p0), .val (.int ((p0 &&& (2147483647 : Int32)) % (10 : Int32))), .unset, .unset] [(.int (9 : Int32)), (.ref b1), (.ref b1)])) rfl (hb hby at_73)
  refine own_go (B := T20.setTop (mkF m 76 #[.val (.int p0), .val (.int ((p0 &&& (2147483647 : Int32)) % (10 : Int32))), .unset, .unset] [(.ref (A 9)), (.int (9 : Int32)), (.ref b1), (.ref b1)])) st20 ?_
  obtain ⟨cl21, Ar21, q21a, q21b, q21c, q21d, q21e⟩ := V19
  obtain ⟨T21, h21, X21, e21, W21, st21⟩ := stR X20 hx hZ e20 Ar21 (j := (9 : Int32)) (inb_of q21b ⟨by decide, by decide⟩) rfl (Sto.ofV Ar21 q21a O1 (Ins.self (E_BS.ext x19))) (g := (mkF m 76 #[.val (.int p0), .val (.int ((p0 &&& (2147483647 : Int32)) % (10 : Int32))), .unset, .unset] [(.ref (A 9)), (.int (9 : Int32)), (.ref b1), (.ref b1)])) rfl rfl (hb hby at_76)
  have V21 : Arv Z h21 b1 k1 (.object "com/example/facet/facet/model/AttributeType") (10 : Int32) [.ref (A 0), .ref (A 1), .ref (A 2), .ref (A 3), .ref (A 4), .ref (A 5), .ref (A 6), .ref (A 7), .ref (A 8), .ref (A 9)] .null := Arv.set Ar21 q21a q21b q21c q21d q21e rfl W21 9 rfl (Nat.le_of_ble_eq_true rfl)
  have x21 : Ext Z.heap h21 := own_xw x19 W21 q1
  have N21 := Fr.snoc X21 N19 q1
  refine own_go (B := T21.setTop (mkF m 77 #[.val (.int p0), .val (.int ((p0 &&& (2147483647 : Int32)) % (10 : Int32))), .unset, .unset] [(.ref b1)])) st21 ?_
  refine own_go (B := T21.setTop (mkF m 78 #[.val (.int p0), .val (.int ((p0 &&& (2147483647 : Int32)) % (10 : Int32))), .val (.ref b1), .unset] [])) (fun _ k => XS.astoreN X21.here hx rfl (hb hby at_77) rfl rfl (l' := #[.val (.int p0), .val (.int ((p0 &&& (2147483647 : Int32)) % (10 : Int32))), .val (.ref b1), .unset]) rfl k) ?_
  obtain ⟨ip0, hip0⟩ : ∃ z : Int32, ((p0 &&& (2147483647 : Int32)) % (10 : Int32)) = z := ⟨_, rfl⟩
  rw [hip0]
  have hcs := own_c10 p0
  rw [hip0] at hcs
  rcases hcs with rfl | rfl | rfl | rfl | rfl | rfl | rfl | rfl | rfl | rfl
  · refine own_go (B := T21.setTop (mkF m 79 #[.val (.int p0), .val (.int (0 : Int32)), .val (.ref b1), .unset] [(.int (0 : Int32))])) (fun _ k => XS.iloadN X21.here hx rfl (hb hby at_78) rfl k) ?_
    refine own_go (B := T21.setTop (mkF m 80 #[.val (.int p0), .val (.int (0 : Int32)), .val (.ref b1), .unset] [(.int (3 : Int32)), (.int (0 : Int32))])) (fun _ k => XT.iconstV X21.here hx rfl (3 : Int32) (hb hby at_79) rfl k) ?_
    refine own_go (B := T21.setTop (mkF m 83 #[.val (.int p0), .val (.int (0 : Int32)), .val (.ref b1), .unset] [])) (fun _ k => XS.icmpNo X21.here hx rfl (hb hby at_80) rfl (by decide) k) ?_
    refine own_go (B := T21.setTop (mkF m 84 #[.val (.int p0), .val (.int (0 : Int32)), .val (.ref b1), .unset] [(.int (1 : Int32))])) (fun _ k => XT.iconstV X21.here hx rfl (1 : Int32) (hb hby at_83) rfl k) ?_
    refine own_go (B := T21.setTop (mkF m 88 #[.val (.int p0), .val (.int (0 : Int32)), .val (.ref b1), .unset] [(.int (1 : Int32))])) (fun _ k => XS.goto X21.here hx rfl (pc0 := 84) (pc' := 88) rfl (hb hby at_84) (by decide) (by decide) k) ?_
    refine own_go (B := T21.setTop (mkF m 89 #[.val (.int p0), .val (.int (0 : Int32)), .val (.ref b1), .val (.int (1 : Int32))] [])) (fun _ k => XS.istoreN X21.here hx rfl (hb hby at_88) rfl (l' := #[.val (.int p0), .val (.int (0 : Int32)), .val (.ref b1), .val (.int (1 : Int32))]) rfl k) ?_
    refine own_go (B := T21.setTop (mkF m 90 #[.val (.int p0), .val (.int (0 : Int32)), .val (.ref b1), .val (.int (1 : Int32))] [(.ref b1)])) (fun _ k => XS.aloadN X21.here hx rfl (hb hby at_89) rfl rfl k) ?_
    refine own_go (B := T21.setTop (mkF m 91 #[.val (.int p0), .val (.int (0 : Int32)), .val (.ref b1), .val (.int (1 : Int32))] [(.int (0 : Int32)), (.ref b1)])) (fun _ k => XS.iloadN X21.here hx rfl (hb hby at_90) rfl k) ?_
    obtain ⟨cl22, Ar22, q22a, q22b, q22c, q22d, q22e⟩ := V21
    have i22 := inb_of (j := (0 : Int32)) q22b ⟨by decide, by decide⟩
    refine own_go (B := T21.setTop (mkF m 92 #[.val (.int p0), .val (.int (0 : Int32)), .val (.ref b1), .val (.int (1 : Int32))] [(.ref (A 0))])) (fun _ k => X21.aaload hx (j := (0 : Int32)) (v := (.ref (A 0))) (by rw [e21]; exact Ar22.1) (State.isArrayOf_alike hZ.alike Ar22.2.1) rfl Ar22.2.2 i22 (Has.at q22d i22 rfl) (g := (mkF m 91 #[.val (.int p0), .val (.int (0 : Int32)), .val (.ref b1), .val (.int (1 : Int32))] [(.int (0 : Int32)), (.ref b1)])) rfl rfl (hb hby at_91) _ k) ?_
    obtain ⟨cq23, kq23, q23a, q23b, q23c⟩ := isOf hZ e21 (E_S.ext x21)
    obtain ⟨_, _, ⟨T23, L23, k23, n23⟩, -, X23, ⟨Lc23, hQ23, l23, y23, z23⟩, st23⟩ := X21.virtualBack hx (y := (⟨"com/example/facet/facet/model/AttributeType", "isKeyType", "()Z"⟩ : MethodName)) (z := (⟨"com/example/facet/facet/model/AttributeType", "isKeyType", "()Z"⟩ : MethodName)) hown (mvT hZ (hw _ (List.mem_of_getElem? (i := 25) rfl))) (mvT hZ (hw _ (List.mem_of_getElem? (i := 26) rfl))) (notFace_of_selects (args := #[]) (mvT hZ (hw _ (List.mem_of_getElem? (i := 28) rfl)))) (mvT hZ (hw _ (List.mem_of_getElem? (i := 28) rfl))) (mvT hZ (hw _ (List.mem_of_getElem? (i := 27) rfl))) (by decide) (own_back (W := 0) (rm1_0 l Z a0 hw []  A hW h21 x21 ) hZ (hw _ (List.mem_of_getElem? (i := 29) rfl)) (hw _ (List.mem_of_getElem? (i := 4) rfl)) (by decide) (by decide)) q23a q23c (g := (mkF m 92 #[.val (.int p0), .val (.int (0 : Int32)), .val (.ref b1), .val (.int (1 : Int32))] [(.ref (A 0))])) rfl (by rw [hml]; rfl) (Steps.refl _) (argsL := []) (rest := []) (lenOf pd_0 rfl) rfl (by show 2 * 0 + _ ≤ _; exact Nat.le_of_eq rfl) (hb hby at_92) (fun _ _ => ⟨rfl, e21, (by decide : 1 + 0 ≤ _), (by decide : 10 + 0 ≤ _)⟩)
    dsimp only [Pt.U, Pt.locs, Pt.cells, Pt.slots] at X23 l23 y23 z23 st23 hQ23
    subst l23 y23 z23
    obtain ⟨rfl, N23q, e23⟩ := hQ23
    have N23 := Fr.app N21 N23q
    refine own_go (B := T23.setTop (mkF m 95 #[.val (.int p0), .val (.int (0 : Int32)), .val (.ref b1), .val (.int (1 : Int32))] [(.int (1 : Int32))])) (fun _ k => st23.trans k) ?_
    refine own_go (B := T23.setTop (mkF m 96 #[.val (.int p0), .val (.int (0 : Int32)), .val (.ref b1), .val (.int (1 : Int32))] [(.int (1 : Int32)), (.int (1 : Int32))])) (fun _ k => XS.iloadN X23.here hx rfl (hb hby at_95) rfl k) ?_
    refine own_go (B := T23.setTop (mkF m 99 #[.val (.int p0), .val (.int (0 : Int32)), .val (.ref b1), .val (.int (1 : Int32))] [])) (fun _ k => XS.icmpNo X23.here hx rfl (hb hby at_96) rfl (by decide) k) ?_
    refine own_go (B := T23.setTop (mkF m 100 #[.val (.int p0), .val (.int (0 : Int32)), .val (.ref b1), .val (.int (1 : Int32))] [(.int (1 : Int32))])) (fun _ k => XT.iconstV X23.here hx rfl (1 : Int32) (hb hby at_99) rfl k) ?_
    refine own_go (B := T23.setTop (mkF m 104 #[.val (.int p0), .val (.int (0 : Int32)), .val (.ref b1), .val (.int (1 : Int32))] [(.int (1 : Int32))])) (fun _ k => XS.goto X23.here hx rfl (pc0 := 100) (pc' := 104) rfl (hb hby at_100) (by decide) (by decide) k) ?_
    exact own_ret X23 hx (t := .boolean) hrt rfl (Or.inl ⟨rfl, by simp, _, rfl⟩) (hb hby at_104) hlk ⟨rfl, N23⟩ (by decide) (by decide)
  · refine own_go (B := T21.setTop (mkF m 79 #[.val (.int p0), .val (.int (1 : Int32)), .val (.ref b1), .unset] [(.int (1 : Int32))])) (fun _ k => XS.iloadN X21.here hx rfl (hb hby at_78) rfl k) ?_
    refine own_go (B := T21.setTop (mkF m 80 #[.val (.int p0), .val (.int (1 : Int32)), .val (.ref b1), .unset] [(.int (3 : Int32)), (.int (1 : Int32))])) (fun _ k => XT.iconstV X21.here hx rfl (3 : Int32) (hb hby at_79) rfl k) ?_
    refine own_go (B := T21.setTop (mkF m 83 #[.val (.int p0), .val (.int (1 : Int32)), .val (.ref b1), .unset] [])) (fun _ k => XS.icmpNo X21.here hx rfl (hb hby at_80) rfl (by decide) k) ?_
    refine own_go (B := T21.setTop (mkF m 84 #[.val (.int p0), .val (.int (1 : Int32)), .val (.ref b1), .unset] [(.int (1 : Int32))])) (fun _ k => XT.iconstV X21.here hx rfl (1 : Int32) (hb hby at_83) rfl k) ?_
    refine own_go (B := T21.setTop (mkF m 88 #[.val (.int p0), .val (.int (1 : Int32)), .val (.ref b1), .unset] [(.int (1 : Int32))])) (fun _ k => XS.goto X21.here hx rfl (pc0 := 84) (pc' := 88) rfl (hb hby at_84) (by decide) (by decide) k) ?_
    refine own_go (B := T21.setTop (mkF m 89 #[.val (.int p0), .val (.int (1 : Int32)), .val (.ref b1), .val (.int (1 : Int32))] [])) (fun _ k => XS.istoreN X21.here hx rfl (hb hby at_88) rfl (l' := #[.val (.int p0), .val (.int (1 : Int32)), .val (.ref b1), .val (.int (1 : Int32))]) rfl k) ?_
    refine own_go (B := T21.setTop (mkF m 90 #[.val (.int p0), .val (.int (1 : Int32)), .val (.ref b1), .val (.int (1 : Int32))] [(.ref b1)])) (fun _ k => XS.aloadN X21.here hx rfl (hb hby at_89) rfl rfl k) ?_
    refine own_go (B := T21.setTop (mkF m 91 #[.val (.int p0), .val (.int (1 : Int32)), .val (.ref b1), .val (.int (1 : Int32))] [(.int (1 : Int32)), (.ref b1)])) (fun _ k => XS.iloadN X21.here hx rfl (hb hby at_90) rfl k) ?_
    obtain ⟨cl24, Ar24, q24a, q24b, q24c, q24d, q24e⟩ := V21
    have i24 := inb_of (j := (1 : Int32)) q24b ⟨by decide, by decide⟩
    refine own_go (B := T21.setTop (mkF m 92 #[.val (.int p0), .val (.int (1 : Int32)), .val (.ref b1), .val (.int (1 : Int32))] [(.ref (A 1))])) (fun _ k => X21.aaload hx (j := (1 : Int32)) (v := (.ref (A 1))) (by rw [e21]; exact Ar24.1) (State.isArrayOf_alike hZ.alike Ar24.2.1) rfl Ar24.2.2 i24 (Has.at q24d i24 rfl) (g := (mkF m 91 #[.val (.int p0), .val (.int (1 : Int32)), .val (.ref b1), .val (.int (1 : Int32))] [(.int (1 : Int32)), (.ref b1)])) rfl rfl (hb hby at_91) _ k) ?_
    obtain ⟨cq25, kq25, q25a, q25b, q25c⟩ := isOf hZ e21 (E_N.ext x21)
    obtain ⟨_, _, ⟨T25, L25, k25, n25⟩, -, X25, ⟨Lc25, hQ25, l25, y25, z25⟩, st25⟩ := X21.virtualBack hx (y := (⟨"com/example/facet/facet/model/AttributeType", "isKeyType", "()Z"⟩ : MethodName)) (z := (⟨"com/example/facet/facet/model/AttributeType", "isKeyType", "()Z"⟩ : MethodName)) hown (mvT hZ (hw _ (List.mem_of_getElem? (i := 25) rfl))) (mvT hZ (hw _ (List.mem_of_getElem? (i := 26) rfl))) (notFace_of_selects (args := #[]) (mvT hZ (hw _ (List.mem_of_getElem? (i := 28) rfl)))) (mvT hZ (hw _ (List.mem_of_getElem? (i := 28) rfl))) (mvT hZ (hw _ (List.mem_of_getElem? (i := 27) rfl))) (by decide) (own_back (W := 0) (rm1_1 l Z a0 hw []  A hW h21 x21 ) hZ (hw _ (List.mem_of_getElem? (i := 29) rfl)) (hw _ (List.mem_of_getElem? (i := 4) rfl)) (by decide) (by decide)) q25a q25c (g := (mkF m 92 #[.val (.int p0), .val (.int (1 : Int32)), .val (.ref b1), .val (.int (1 : Int32))] [(.ref (A 1))])) rfl (by rw [hml]; rfl) (Steps.refl _) (argsL := []) (rest := []) (lenOf pd_0 rfl) rfl (by show 2 * 0 + _ ≤ _; exact Nat.le_of_eq rfl) (hb hby at_92) (fun _ _ => ⟨rfl, e21, (by decide : 1 + 0 ≤ _), (by decide : 10 + 0 ≤ _)⟩)
    dsimp only [Pt.U, Pt.locs, Pt.cells, Pt.slots] at X25 l25 y25 z25 st25 hQ25
    subst l25 y25 z25
    obtain ⟨rfl, N25q, e25⟩ := hQ25
    have N25 := Fr.app N21 N25q
    refine own_go (B := T25.setTop (mkF m 95 #[.val (.int p0), .val (.int (1 : Int32)), .val (.ref b1), .val (.int (1 : Int32))] [(.int (1 : Int32))])) (fun _ k => st25.trans k) ?_
    refine own_go (B := T25.setTop (mkF m 96 #[.val (.int p0), .val (.int (1 : Int32)), .val (.ref b1), .val (.int (1 : Int32))] [(.int (1 : Int32)), (.int (1 : Int32))])) (fun _ k => XS.iloadN X25.here hx rfl (hb hby at_95) rfl k) ?_
    refine own_go (B := T25.setTop (mkF m 99 #[.val (.int p0), .val (.int (1 : Int32)), .val (.ref b1), .val (.int (1 : Int32))] [])) (fun _ k => XS.icmpNo X25.here hx rfl (hb hby at_96) rfl (by decide) k) ?_
    refine own_go (B := T25.setTop (mkF m 100 #[.val (.int p0), .val (.int (1 : Int32)), .val (.ref b1), .val (.int (1 : Int32))] [(.int (1 : Int32))])) (fun _ k => XT.iconstV X25.here hx rfl (1 : Int32) (hb hby at_99) rfl k) ?_
    refine own_go (B := T25.setTop (mkF m 104 #[.val (.int p0), .val (.int (1 : Int32)), .val (.ref b1), .val (.int (1 : Int32))] [(.int (1 : Int32))])) (fun _ k => XS.goto X25.here hx rfl (pc0 := 100) (pc' := 104) rfl (hb hby at_100) (by decide) (by decide) k) ?_
    exact own_ret X25 hx (t := .boolean) hrt rfl (Or.inl ⟨rfl, by simp, _, rfl⟩) (hb hby at_104) hlk ⟨rfl, N25⟩ (by decide) (by decide)
  · refine own_go (B := T21.setTop (mkF m 79 #[.val (.int p0), .val (.int (2 : Int32)), .val (.ref b1), .unset] [(.int (2 : Int32))])) (fun _ k => XS.iloadN X21.here hx rfl (hb hby at_78) rfl k) ?_
    refine own_go (B := T21.setTop (mkF m 80 #[.val (.int p0), .val (.int (2 : Int32)), .val (.ref b1), .unset] [(.int (3 : Int32)), (.int (2 : Int32))])) (fun _ k => XT.iconstV X21.here hx rfl (3 : Int32) (hb hby at_79) rfl k) ?_
    refine own_go (B := T21.setTop (mkF m 83 #[.val (.int p0), .val (.int (2 : Int32)), .val (.ref b1), .unset] [])) (fun _ k => XS.icmpNo X21.here hx rfl (hb hby at_80) rfl (by decide) k) ?_
    refine own_go (B := T21.setTop (mkF m 84 #[.val (.int p0), .val (.int (2 : Int32)), .val (.ref b1), .unset] [(.int (1 : Int32))])) (fun _ k => XT.iconstV X21.here hx rfl (1 : Int32) (hb hby at_83) rfl k) ?_
    refine own_go (B := T21.setTop (mkF m 88 #[.val (.int p0), .val (.int (2 : Int32)), .val (.ref b1), .unset] [(.int (1 : Int32))])) (fun _ k => XS.goto X21.here hx rfl (pc0 := 84) (pc' := 88) rfl (hb hby at_84) (by decide) (by decide) k) ?_
    refine own_go (B := T21.setTop (mkF m 89 #[.val (.int p0), .val (.int (2 : Int32)), .val (.ref b1), .val (.int (1 : Int32))] [])) (fun _ k => XS.istoreN X21.here hx rfl (hb hby at_88) rfl (l' := #[.val (.int p0), .val (.int (2 : Int32)), .val (.ref b1), .val (.int (1 : Int32))]) rfl k) ?_
    refine own_go (B := T21.setTop (mkF m 90 #[.val (.int p0), .val (.int (2 : Int32)), .val (.ref b1), .val (.int (1 : Int32))] [(.ref b1)])) (fun _ k => XS.aloadN X21.here hx rfl (hb hby at_89) rfl rfl k) ?_
    refine own_go (B := T21.setTop (mkF m 91 #[.val (.int p0), .val (.int (2 : Int32)), .val (.ref b1), .val (.int (1 : Int32))] [(.int (2 : Int32)), (.ref b1)])) (fun _ k => XS.iloadN X21.here hx rfl (hb hby at_90) rfl k) ?_
    obtain ⟨cl26, Ar26, q26a, q26b, q26c, q26d, q26e⟩ := V21
    have i26 := inb_of (j := (2 : Int32)) q26b ⟨by decide, by decide⟩
    refine own_go (B := T21.setTop (mkF m 92 #[.val (.int p0), .val (.int (2 : Int32)), .val (.ref b1), .val (.int (1 : Int32))] [(.ref (A 2))])) (fun _ k => X21.aaload hx (j := (2 : Int32)) (v := (.ref (A 2))) (by rw [e21]; exact Ar26.1) (State.isArrayOf_alike hZ.alike Ar26.2.1) rfl Ar26.2.2 i26 (Has.at q26d i26 rfl) (g := (mkF m 91 #[.val (.int p0), .val (.int (2 : Int32)), .val (.ref b1), .val (.int (1 : Int32))] [(.int (2 : Int32)), (.ref b1)])) rfl rfl (hb hby at_91) _ k) ?_
    obtain ⟨cq27, kq27, q27a, q27b, q27c⟩ := isOf hZ e21 (E_B.ext x21)
    obtain ⟨_, _, ⟨T27, L27, k27, n27⟩, -, X27, ⟨Lc27, hQ27, l27, y27, z27⟩, st27⟩ := X21.virtualBack hx (y := (⟨"com/example/facet/facet/model/AttributeType", "isKeyType", "()Z"⟩ : MethodName)) (z := (⟨"com/example/facet/facet/model/AttributeType", "isKeyType", "()Z"⟩ : MethodName)) hown (mvT hZ (hw _ (List.mem_of_getElem? (i := 25) rfl))) (mvT hZ (hw _ (List.mem_of_getElem? (i := 26) rfl))) (notFace_of_selects (args := #[]) (mvT hZ (hw _ (List.mem_of_getElem? (i := 28) rfl)))) (mvT hZ (hw _ (List.mem_of_getElem? (i := 28) rfl))) (mvT hZ (hw _ (List.mem_of_getElem? (i := 27) rfl))) (by decide) (own_back (W := 0) (rm1_2 l Z a0 hw []  A hW h21 x21 ) hZ (hw _ (List.mem_of_getElem? (i := 29) rfl)) (hw _ (List.mem_of_getElem? (i := 4) rfl)) (by decide) (by decide)) q27a q27c (g := (mkF m 92 #[.val (.int p0), .val (.int (2 : Int32)), .val (.ref b1), .val (.int (1 : Int32))] [(.ref (A 2))])) rfl (by rw [hml]; rfl) (Steps.refl _) (argsL := []) (rest := []) (lenOf pd_0 rfl) rfl (by show 2 * 0 + _ ≤ _; exact Nat.le_of_eq rfl) (hb hby at_92) (fun _ _ => ⟨rfl, e21, (by decide : 1 + 0 ≤ _), (by decide : 10 + 0 ≤ _)⟩)
    dsimp only [Pt.U, Pt.locs, Pt.cells, Pt.slots] at X27 l27 y27 z27 st27 hQ27
    subst l27 y27 z27
    obtain ⟨rfl, N27q, e27⟩ := hQ27
    have N27 := Fr.app N21 N27q
    refine own_go (B := T27.setTop (mkF m 95 #[.val (.int p0), .val (.int (2 : Int32)), .val (.ref b1), .val (.int (1 : Int32))] [(.int (1 : Int32))])) (fun _ k => st27.trans k) ?_
    refine own_go (B := T27.setTop (mkF m 96 #[.val (.int p0), .val (.int (2 : Int32)), .val (.ref b1), .val (.int (1 : Int32))] [(.int (1 : Int32)), (.int (1 : Int32))])) (fun _ k => XS.iloadN X27.here hx rfl (hb hby at_95) rfl k) ?_
    refine own_go (B := T27.setTop (mkF m 99 #[.val (.int p0), .val (.int (2 : Int32)), .val (.ref b1), .val (.int (1 : Int32))] [])) (fun _ k => XS.icmpNo X27.here hx rfl (hb hby at_96) rfl (by decide) k) ?_
    refine own_go (B := T27.setTop (mkF m 100 #[.val (.int p0), .val (.int (2 : Int32)), .val (.ref b1), .val (.int (1 : Int32))] [(.int (1 : Int32))])) (fun _ k => XT.iconstV X27.here hx rfl (1 : Int32) (hb hby at_99) rfl k) ?_
    refine own_go (B := T27.setTop (mkF m 104 #[.val (.int p0), .val (.int (2 : Int32)), .val (.ref b1), .val (.int (1 : Int32))] [(.int (1 : Int32))])) (fun _ k => XS.goto X27.here hx rfl (pc0 := 100) (pc' := 104) rfl (hb hby at_100) (by decide) (by decide) k) ?_
    exact own_ret X27 hx (t := .boolean) hrt rfl (Or.inl ⟨rfl, by simp, _, rfl⟩) (hb hby at_104) hlk ⟨rfl, N27⟩ (by decide) (by decide)
  · refine own_go (B := T21.setTop (mkF m 79 #[.val (.int p0), .val (.int (3 : Int32)), .val (.ref b1), .unset] [(.int (3 : Int32))])) (fun _ k => XS.iloadN X21.here hx rfl (hb hby at_78) rfl k) ?_
    refine own_go (B := T21.setTop (mkF m 80 #[.val (.int p0), .val (.int (3 : Int32)), .val (.ref b1), .unset] [(.int (3 : Int32)), (.int (3 : Int32))])) (fun _ k => XT.iconstV X21.here hx rfl (3 : Int32) (hb hby at_79) rfl k) ?_
    refine own_go (B := T21.setTop (mkF m 87 #[.val (.int p0), .val (.int (3 : Int32)), .val (.ref b1), .unset] [])) (fun _ k => XS.icmpYes X21.here hx rfl (pc0 := 80) (pc' := 87) rfl (hb hby at_80) rfl (by decide) (by decide) (by decide) k) ?_
    refine own_go (B := T21.setTop (mkF m 88 #[.val (.int p0), .val (.int (3 : Int32)), .val (.ref b1), .unset] [(.int (0 : Int32))])) (fun _ k => XT.iconstV X21.here hx rfl (0 : Int32) (hb hby at_87) rfl k) ?_
    refine own_go (B := T21.setTop (mkF m 89 #[.val (.int p0), .val (.int (3 : Int32)), .val (.ref b1), .val (.int (0 : Int32))] [])) (fun _ k => XS.istoreN X21.here hx rfl (hb hby at_88) rfl (l' := #[.val (.int p0), .val (.int (3 : Int32)), .val (.ref b1), .val (.int (0 : Int32))]) rfl k) ?_
    refine own_go (B := T21.setTop (mkF m 90 #[.val (.int p0), .val (.int (3 : Int32)), .val (.ref b1), .val (.int (0 : Int32))] [(.ref b1)])) (fun _ k => XS.aloadN X21.here hx rfl (hb hby at_89) rfl rfl k) ?_
    refine own_go (B := T21.setTop (mkF m 91 #[.val (.int p0), .val (.int (3 : Int32)), .val (.ref b1), .val (.int (0 : Int32))] [(.int (3 : Int32)), (.ref b1)])) (fun _ k => XS.iloadN X21.here hx rfl (hb hby at_90) rfl k) ?_
    obtain ⟨cl28, Ar28, q28a, q28b, q28c, q28d, q28e⟩ := V21
    have i28 := inb_of (j := (3 : Int32)) q28b ⟨by decide, by decide⟩
    refine own_go (B := T21.setTop (mkF m 92 #[.val (.int p0), .val (.int (3 : Int32)), .val (.ref b1), .val (.int (0 : Int32))] [(.ref (A 3))])) (fun _ k => X21.aaload hx (j := (3 : Int32)) (v := (.ref (A 3))) (by rw [e21]; exact Ar28.1) (State.isArrayOf_alike hZ.alike Ar28.2.1) rfl Ar28.2.2 i28 (Has.at q28d i28 rfl) (g := (mkF m 91 #[.val (.int p0), .val (.int (3 : Int32)), .val (.ref b1), .val (.int (0 : Int32))] [(.int (3 : Int32)), (.ref b1)])) rfl rfl (hb hby at_91) _ k) ?_
    obtain ⟨cq29, kq29, q29a, q29b, q29c⟩ := isOf hZ e21 (E_BOOL.ext x21)
    obtain ⟨_, _, ⟨T29, L29, k29, n29⟩, -, X29, ⟨Lc29, hQ29, l29, y29, z29⟩, st29⟩ := X21.virtualBack hx (y := (⟨"com/example/facet/facet/model/AttributeType", "isKeyType", "()Z"⟩ : MethodName)) (z := (⟨"com/example/facet/facet/model/AttributeType", "isKeyType", "()Z"⟩ : MethodName)) hown (mvT hZ (hw _ (List.mem_of_getElem? (i := 25) rfl))) (mvT hZ (hw _ (List.mem_of_getElem? (i := 26) rfl))) (notFace_of_selects (args := #[]) (mvT hZ (hw _ (List.mem_of_getElem? (i := 28) rfl)))) (mvT hZ (hw _ (List.mem_of_getElem? (i := 28) rfl))) (mvT hZ (hw _ (List.mem_of_getElem? (i := 27) rfl))) (by decide) (own_back (W := 0) (rm1_3 l Z a0 hw []  A hW h21 x21 ) hZ (hw _ (List.mem_of_getElem? (i := 29) rfl)) (hw _ (List.mem_of_getElem? (i := 4) rfl)) (by decide) (by decide)) q29a q29c (g := (mkF m 92 #[.val (.int p0), .val (.int (3 : Int32)), .val (.ref b1), .val (.int (0 : Int32))] [(.ref (A 3))])) rfl (by rw [hml]; rfl) (Steps.refl _) (argsL := []) (rest := []) (lenOf pd_0 rfl) rfl (by show 2 * 0 + _ ≤ _; exact Nat.le_of_eq rfl) (hb hby at_92) (fun _ _ => ⟨rfl, e21, (by decide : 1 + 0 ≤ _), (by decide : 10 + 0 ≤ _)⟩)
    dsimp only [Pt.U, Pt.locs, Pt.cells, Pt.slots] at X29 l29 y29 z29 st29 hQ29
    subst l29 y29 z29
    obtain ⟨rfl, N29q, e29⟩ := hQ29
    have N29 := Fr.app N21 N29q
    refine own_go (B := T29.setTop (mkF m 95 #[.val (.int p0), .val (.int (3 : Int32)), .val (.ref b1), .val (.int (0 : Int32))] [(.int (0 : Int32))])) (fun _ k => st29.trans k) ?_
    refine own_go (B := T29.setTop (mkF m 96 #[.val (.int p0), .val (.int (3 : Int32)), .val (.ref b1), .val (.int (0 : Int32))] [(.int (0 : Int32)), (.int (0 : Int32))])) (fun _ k => XS.iloadN X29.here hx rfl (hb hby at_95) rfl k) ?_
    refine own_go (B := T29.setTop (mkF m 99 #[.val (.int p0), .val (.int (3 : Int32)), .val (.ref b1), .val (.int (0 : Int32))] [])) (fun _ k => XS.icmpNo X29.here hx rfl (hb hby at_96) rfl (by decide) k) ?_
    refine own_go (B := T29.setTop (mkF m 100 #[.val (.int p0), .val (.int (3 : Int32)), .val (.ref b1), .val (.int (0 : Int32))] [(.int (1 : Int32))])) (fun _ k => XT.iconstV X29.here hx rfl (1 : Int32) (hb hby at_99) rfl k) ?_
    refine own_go (B := T29.setTop (mkF m 104 #[.val (.int p0), .val (.int (3 : Int32)), .val (.ref b1), .val (.int (0 : Int32))] [(.int (1 : Int32))])) (fun _ k => XS.goto X29.here hx rfl (pc0 := 100) (pc' := 104) rfl (hb hby at_100) (by decide) (by decide) k) ?_
    exact own_ret X29 hx (t := .boolean) hrt rfl (Or.inl ⟨rfl, by simp, _, rfl⟩) (hb hby at_104) hlk ⟨rfl, N29⟩ (by decide) (by decide)
  · refine own_go (B := T21.setTop (mkF m 79 #[.val (.int p0), .val (.int (4 : Int32)), .val (.ref b1), .unset] [(.int (4 : Int32))])) (fun _ k => XS.iloadN X21.here hx rfl (hb hby at_78) rfl k) ?_
    refine own_go (B := T21.setTop (mkF m 80 #[.val (.int p0), .val (.int (4 : Int32)), .val (.ref b1), .unset] [(.int (3 : Int32)), (.int (4 : Int32))])) (fun _ k => XT.iconstV X21.here hx rfl (3 : Int32) (hb hby at_79) rfl k) ?_
    refine own_go (B := T21.setTop (mkF m 87 #[.val (.int p0), .val (.int (4 : Int32)), .val (.ref b1), .unset] [])) (fun _ k => XS.icmpYes X21.here hx rfl (pc0 := 80) (pc' := 87) rfl (hb hby at_80) rfl (by decide) (by decide) (by decide) k) ?_
    refine own_go (B := T21.setTop (mkF m 88 #[.val (.int p0), .val (.int (4 : Int32)), .val (.ref b1), .unset] [(.int (0 : Int32))])) (fun _ k => XT.iconstV X21.here hx rfl (0 : Int32) (hb hby at_87) rfl k) ?_
    refine own_go (B := T21.setTop (mkF m 89 #[.val (.int p0), .val (.int (4 : Int32)), .val (.ref b1), .val (.int (0 : Int32))] [])) (fun _ k => XS.istoreN X21.here hx rfl (hb hby at_88) rfl (l' := #[.val (.int p0), .val (.int (4 : Int32)), .val (.ref b1), .val (.int (0 : Int32))]) rfl k) ?_
    refine own_go (B := T21.setTop (mkF m 90 #[.val (.int p0), .val (.int (4 : Int32)), .val (.ref b1), .val (.int (0 : Int32))] [(.ref b1)])) (fun _ k => XS.aloadN X21.here hx rfl (hb hby at_89) rfl rfl k) ?_
    refine own_go (B := T21.setTop (mkF m 91 #[.val (.int p0), .val (.int (4 : Int32)), .val (.ref b1), .val (.int (0 : Int32))] [(.int (4 : Int32)), (.ref b1)])) (fun _ k => XS.iloadN X21.here hx rfl (hb hby at_90) rfl k) ?_
    obtain ⟨cl30, Ar30, q30a, q30b, q30c, q30d, q30e⟩ := V21
    have i30 := inb_of (j := (4 : Int32)) q30b ⟨by decide, by decide⟩
    refine own_go (B := T21.setTop (mkF m 92 #[.val (.int p0), .val (.int (4 : Int32)), .val (.ref b1), .val (.int (0 : Int32))] [(.ref (A 4))])) (fun _ k => X21.aaload hx (j := (4 : Int32)) (v := (.ref (A 4))) (by rw [e21]; exact Ar30.1) (State.isArrayOf_alike hZ.alike Ar30.2.1) rfl Ar30.2.2 i30 (Has.at q30d i30 rfl) (g := (mkF m 91 #[.val (.int p0), .val (.int (4 : Int32)), .val (.ref b1), .val (.int (0 : Int32))] [(.int (4 : Int32)), (.ref b1)])) rfl rfl (hb hby at_91) _ k) ?_
    obtain ⟨cq31, kq31, q31a, q31b, q31c⟩ := isOf hZ e21 (E_NULL.ext x21)
    obtain ⟨_, _, ⟨T31, L31, k31, n31⟩, -, X31, ⟨Lc31, hQ31, l31, y31, z31⟩, st31⟩ := X21.virtualBack hx (y := (⟨"com/example/facet/facet/model/AttributeType", "isKeyType", "()Z"⟩ : MethodName)) (z := (⟨"com/example/facet/facet/model/AttributeType", "isKeyType", "()Z"⟩ : MethodName)) hown (mvT hZ (hw _ (List.mem_of_getElem? (i := 25) rfl))) (mvT hZ (hw _ (List.mem_of_getElem? (i := 26) rfl))) (notFace_of_selects (args := #[]) (mvT hZ (hw _ (List.mem_of_getElem? (i := 28) rfl)))) (mvT hZ (hw _ (List.mem_of_getElem? (i := 28) rfl))) (mvT hZ (hw _ (List.mem_of_getElem? (i := 27) rfl))) (by decide) (own_back (W := 0) (rm1_4 l Z a0 hw []  A hW h21 x21 ) hZ (hw _ (List.mem_of_getElem? (i := 29) rfl)) (hw _ (List.mem_of_getElem? (i := 4) rfl)) (by decide) (by decide)) q31a q31c (g := (mkF m 92 #[.val (.int p0), .val (.int (4 : Int32)), .val (.ref b1), .val (.int (0 : Int32))] [(.ref (A 4))])) rfl (by rw [hml]; rfl) (Steps.refl _) (argsL := []) (rest := []) (lenOf pd_0 rfl) rfl (by show 2 * 0 + _ ≤ _; exact Nat.le_of_eq rfl) (hb hby at_92) (fun _ _ => ⟨rfl, e21, (by decide : 1 + 0 ≤ _), (by decide : 10 + 0 ≤ _)⟩)
    dsimp only [Pt.U, Pt.locs, Pt.cells, Pt.slots] at X31 l31 y31 z31 st31 hQ31
    subst l31 y31 z31
    obtain ⟨rfl, N31q, e31⟩ := hQ31
    have N31 := Fr.app N21 N31q
    refine own_go (B := T31.setTop (mkF m 95 #[.val (.int p0), .val (.int (4 : Int32)), .val (.ref b1), .val (.int (0 : Int32))] [(.int (0 : Int32))])) (fun _ k => st31.trans k) ?_
    refine own_go (B := T31.setTop (mkF m 96 #[.val (.int p0), .val (.int (4 : Int32)), .val (.ref b1), .val (.int (0 : Int32))] [(.int (0 : Int32)), (.int (0 : Int32))])) (fun _ k => XS.iloadN X31.here hx rfl (hb hby at_95) rfl k) ?_
    refine own_go (B := T31.setTop (mkF m 99 #[.val (.int p0), .val (.int (4 : Int32)), .val (.ref b1), .val (.int (0 : Int32))] [])) (fun _ k => XS.icmpNo X31.here hx rfl (hb hby at_96) rfl (by decide) k) ?_
    refine own_go (B := T31.setTop (mkF m 100 #[.val (.int p0), .val (.int (4 : Int32)), .val (.ref b1), .val (.int (0 : Int32))] [(.int (1 : Int32))])) (fun _ k => XT.iconstV X31.here hx rfl (1 : Int32) (hb hby at_99) rfl k) ?_
    refine own_go (B := T31.setTop (mkF m 104 #[.val (.int p0), .val (.int (4 : Int32)), .val (.ref b1), .val (.int (0 : Int32))] [(.int (1 : Int32))])) (fun _ k => XS.goto X31.here hx rfl (pc0 := 100) (pc' := 104) rfl (hb hby at_100) (by decide) (by decide) k) ?_
    exact own_ret X31 hx (t := .boolean) hrt rfl (Or.inl ⟨rfl, by simp, _, rfl⟩) (hb hby at_104) hlk ⟨rfl, N31⟩ (by decide) (by decide)
  · refine own_go (B := T21.setTop (mkF m 79 #[.val (.int p0), .val (.int (5 : Int32)), .val (.ref b1), .unset] [(.int (5 : Int32))])) (fun _ k => XS.iloadN X21.here hx rfl (hb hby at_78) rfl k) ?_
    refine own_go (B := T21.setTop (mkF m 80 #[.val (.int p0), .val (.int (5 : Int32)), .val (.ref b1), .unset] [(.int (3 : Int32)), (.int (5 : Int32))])) (fun _ k => XT.iconstV X21.here hx rfl (3 : Int32) (hb hby at_79) rfl k) ?_
    refine own_go (B := T21.setTop (mkF m 87 #[.val (.int p0), .val (.int (5 : Int32)), .val (.ref b1), .unset] [])) (fun _ k => XS.icmpYes X21.here hx rfl (pc0 := 80) (pc' := 87) rfl (hb hby at_80) rfl (by decide) (by decide) (by decide) k) ?_
    refine own_go (B := T21.setTop (mkF m 88 #[.val (.int p0), .val (.int (5 : Int32)), .val (.ref b1), .unset] [(.int (0 : Int32))])) (fun _ k => XT.iconstV X21.here hx rfl (0 : Int32) (hb hby at_87) rfl k) ?_
    refine own_go (B := T21.setTop (mkF m 89 #[.val (.int p0), .val (.int (5 : Int32)), .val (.ref b1), .val (.int (0 : Int32))] [])) (fun _ k => XS.istoreN X21.here hx rfl (hb hby at_88) rfl (l' := #[.val (.int p0), .val (.int (5 : Int32)), .val (.ref b1), .val (.int (0 : Int32))]) rfl k) ?_
    refine own_go (B := T21.setTop (mkF m 90 #[.val (.int p0), .val (.int (5 : Int32)), .val (.ref b1), .val (.int (0 : Int32))] [(.ref b1)])) (fun _ k => XS.aloadN X21.here hx rfl (hb hby at_89) rfl rfl k) ?_
    refine own_go (B := T21.setTop (mkF m 91 #[.val (.int p0), .val (.int (5 : Int32)), .val (.ref b1), .val (.int (0 : Int32))] [(.int (5 : Int32)), (.ref b1)])) (fun _ k => XS.iloadN X21.here hx rfl (hb hby at_90) rfl k) ?_
    obtain ⟨cl32, Ar32, q32a, q32b, q32c, q32d, q32e⟩ := V21
    have i32 := inb_of (j := (5 : Int32)) q32b ⟨by decide, by decide⟩
    refine own_go (B := T21.setTop (mkF m 92 #[.val (.int p0), .val (.int (5 : Int32)), .val (.ref b1), .val (.int (0 : Int32))] [(.ref (A 5))])) (fun _ k => X21.aaload hx (j := (5 : Int32)) (v := (.ref (A 5))) (by rw [e21]; exact Ar32.1) (State.isArrayOf_alike hZ.alike Ar32.2.1) rfl Ar32.2.2 i32 (Has.at q32d i32 rfl) (g := (mkF m 91 #[.val (.int p0), .val (.int (5 : Int32)), .val (.ref b1), .val (.int (0 : Int32))] [(.int (5 : Int32)), (.ref b1)])) rfl rfl (hb hby at_91) _ k) ?_
    obtain ⟨cq33, kq33, q33a, q33b, q33c⟩ := isOf hZ e21 (E_M.ext x21)
    obtain ⟨_, _, ⟨T33, L33, k33, n33⟩, -, X33, ⟨Lc33, hQ33, l33, y33, z33⟩, st33⟩ := X21.virtualBack hx (y := (⟨"com/example/facet/facet/model/AttributeType", "isKeyType", "()Z"⟩ : MethodName)) (z := (⟨"com/example/facet/facet/model/AttributeType", "isKeyType", "()Z"⟩ : MethodName)) hown (mvT hZ (hw _ (List.mem_of_getElem? (i := 25) rfl))) (mvT hZ (hw _ (List.mem_of_getElem? (i := 26) rfl))) (notFace_of_selects (args := #[]) (mvT hZ (hw _ (List.mem_of_getElem? (i := 28) rfl)))) (mvT hZ (hw _ (List.mem_of_getElem? (i := 28) rfl))) (mvT hZ (hw _ (List.mem_of_getElem? (i := 27) rfl))) (by decide) (own_back (W := 0) (rm1_5 l Z a0 hw []  A hW h21 x21 ) hZ (hw _ (List.mem_of_getElem? (i := 29) rfl)) (hw _ (List.mem_of_getElem? (i := 4) rfl)) (by decide) (by decide)) q33a q33c (g := (mkF m 92 #[.val (.int p0), .val (.int (5 : Int32)), .val (.ref b1), .val (.int (0 : Int32))] [(.ref (A 5))])) rfl (by rw [hml]; rfl) (Steps.refl _) (argsL := []) (rest := []) (lenOf pd_0 rfl) rfl (by show 2 * 0 + _ ≤ _; exact Nat.le_of_eq rfl) (hb hby at_92) (fun _ _ => ⟨rfl, e21, (by decide : 1 + 0 ≤ _), (by decide : 10 + 0 ≤ _)⟩)
    dsimp only [Pt.U, Pt.locs, Pt.cells, Pt.slots] at X33 l33 y33 z33 st33 hQ33
    subst l33 y33 z33
    obtain ⟨rfl, N33q, e33⟩ := hQ33
    have N33 := Fr.app N21 N33q
    refine own_go (B := T33.setTop (mkF m 95 #[.val (.int p0), .val (.int (5 : Int32)), .val (.ref b1), .val (.int (0 : Int32))] [(.int (0 : Int32))])) (fun _ k => st33.trans k) ?_
    refine own_go (B := T33.setTop (mkF m 96 #[.val (.int p0), .val (.int (5 : Int32)), .val (.ref b1), .val (.int (0 : Int32))] [(.int (0 : Int32)), (.int (0 : Int32))])) (fun _ k => XS.iloadN X33.here hx rfl (hb hby at_95) rfl k) ?_
    refine own_go (B := T33.setTop (mkF m 99 #[.val (.int p0), .val (.int (5 : Int32)), .val (.ref b1), .val (.int (0 : Int32))] [])) (fun _ k => XS.icmpNo X33.here hx rfl (hb hby at_96) rfl (by decide) k) ?_
    refine own_go (B := T33.setTop (mkF m 100 #[.val (.int p0), .val (.int (5 : Int32)), .val (.ref b1), .val (.int (0 : Int32))] [(.int (1 : Int32))])) (fun _ k => XT.iconstV X33.here hx rfl (1 : Int32) (hb hby at_99) rfl k) ?_
    refine own_go (B := T33.setTop (mkF m 104 #[.val (.int p0), .val (.int (5 : Int32)), .val (.ref b1), .val (.int (0 : Int32))] [(.int (1 : Int32))])) (fun _ k => XS.goto X33.here hx rfl (pc0 := 100) (pc' := 104) rfl (hb hby at_100) (by decide) (by decide) k) ?_
    exact own_ret X33 hx (t := .boolean) hrt rfl (Or.inl ⟨rfl, by simp, _, rfl⟩) (hb hby at_104) hlk ⟨rfl, N33⟩ (by decide) (by decide)
  · refine own_go (B := T21.setTop (mkF m 79 #[.val (.int p0), .val (.int (6 : Int32)), .val (.ref b1), .unset] [(.int (6 : Int32))])) (fun _ k => XS.iloadN X21.here hx rfl (hb hby at_78) rfl k) ?_
    refine own_go (B := T21.setTop (mkF m 80 #[.val (.int p0), .val (.int (6 : Int32)), .val (.ref b1), .unset] [(.int (3 : Int32)), (.int (6 : Int32))])) (fun _ k => XT.iconstV X21.here hx rfl (3 : Int32) (hb hby at_79) rfl k) ?_
    refine own_go (B := T21.setTop (mkF m 87 #[.val (.int p0), .val (.int (6 : Int32)), .val (.ref b1), .unset] [])) (fun _ k => XS.icmpYes X21.here hx rfl (pc0 := 80) (pc' := 87) rfl (hb hby at_80) rfl (by decide) (by decide) (by decide) k) ?_
    refine own_go (B := T21.setTop (mkF m 88 #[.val (.int p0), .val (.int (6 : Int32)), .val (.ref b1), .unset] [(.int (0 : Int32))])) (fun _ k => XT.iconstV X21.here hx rfl (0 : Int32) (hb hby at_87) rfl k) ?_
    refine own_go (B := T21.setTop (mkF m 89 #[.val (.int p0), .val (.int (6 : Int32)), .val (.ref b1), .val (.int (0 : Int32))] [])) (fun _ k => XS.istoreN X21.here hx rfl (hb hby at_88) rfl (l' := #[.val (.int p0), .val (.int (6 : Int32)), .val (.ref b1), .val (.int (0 : Int32))]) rfl k) ?_
    refine own_go (B := T21.setTop (mkF m 90 #[.val (.int p0), .val (.int (6 : Int32)), .val (.ref b1), .val (.int (0 : Int32))] [(.ref b1)])) (fun _ k => XS.aloadN X21.here hx rfl (hb hby at_89) rfl rfl k) ?_
    refine own_go (B := T21.setTop (mkF m 91 #[.val (.int p0), .val (.int (6 : Int32)), .val (.ref b1), .val (.int (0 : Int32))] [(.int (6 : Int32)), (.ref b1)])) (fun _ k => XS.iloadN X21.here hx rfl (hb hby at_90) rfl k) ?_
    obtain ⟨cl34, Ar34, q34a, q34b, q34c, q34d, q34e⟩ := V21
    have i34 := inb_of (j := (6 : Int32)) q34b ⟨by decide, by decide⟩
    refine own_go (B := T21.setTop (mkF m 92 #[.val (.int p0), .val (.int (6 : Int32)), .val (.ref b1), .val (.int (0 : Int32))] [(.ref (A 6))])) (fun _ k => X21.aaload hx (j := (6 : Int32)) (v := (.ref (A 6))) (by rw [e21]; exact Ar34.1) (State.isArrayOf_alike hZ.alike Ar34.2.1) rfl Ar34.2.2 i34 (Has.at q34d i34 rfl) (g := (mkF m 91 #[.val (.int p0), .val (.int (6 : Int32)), .val (.ref b1), .val (.int (0 : Int32))] [(.int (6 : Int32)), (.ref b1)])) rfl rfl (hb hby at_91) _ k) ?_
    obtain ⟨cq35, kq35, q35a, q35b, q35c⟩ := isOf hZ e21 (E_L.ext x21)
    obtain ⟨_, _, ⟨T35, L35, k35, n35⟩, -, X35, ⟨Lc35, hQ35, l35, y35, z35⟩, st35⟩ := X21.virtualBack hx (y := (⟨"com/example/facet/facet/model/AttributeType", "isKeyType", "()Z"⟩ : MethodName)) (z := (⟨"com/example/facet/facet/model/AttributeType", "isKeyType", "()Z"⟩ : MethodName)) hown (mvT hZ (hw _ (List.mem_of_getElem? (i := 25) rfl))) (mvT hZ (hw _ (List.mem_of_getElem? (i := 26) rfl))) (notFace_of_selects (args := #[]) (mvT hZ (hw _ (List.mem_of_getElem? (i := 28) rfl)))) (mvT hZ (hw _ (List.mem_of_getElem? (i := 28) rfl))) (mvT hZ (hw _ (List.mem_of_getElem? (i := 27) rfl))) (by decide) (own_back (W := 0) (rm1_6 l Z a0 hw []  A hW h21 x21 ) hZ (hw _ (List.mem_of_getElem? (i := 29) rfl)) (hw _ (List.mem_of_getElem? (i := 4) rfl)) (by decide) (by decide)) q35a q35c (g := (mkF m 92 #[.val (.int p0), .val (.int (6 : Int32)), .val (.ref b1), .val (.int (0 : Int32))] [(.ref (A 6))])) rfl (by rw [hml]; rfl) (Steps.refl _) (argsL := []) (rest := []) (lenOf pd_0 rfl) rfl (by show 2 * 0 + _ ≤ _; exact Nat.le_of_eq rfl) (hb hby at_92) (fun _ _ => ⟨rfl, e21, (by decide : 1 + 0 ≤ _), (by decide : 10 + 0 ≤ _)⟩)
    dsimp only [Pt.U, Pt.locs, Pt.cells, Pt.slots] at X35 l35 y35 z35 st35 hQ35
    subst l35 y35 z35
    obtain ⟨rfl, N35q, e35⟩ := hQ35
    have N35 := Fr.app N21 N35q
    refine own_go (B := T35.setTop (mkF m 95 #[.val (.int p0), .val (.int (6 : Int32)), .val (.ref b1), .val (.int (0 : Int32))] [(.int (0 : Int32))])) (fun _ k => st35.trans k) ?_
    refine own_go (B := T35.setTop (mkF m 96 #[.val (.int p0), .val (.int (6 : Int32)), .val (.ref b1), .val (.int (0 : Int32))] [(.int (0 : Int32)), (.int (0 : Int32))])) (fun _ k => XS.iloadN X35.here hx rfl (hb hby at_95) rfl k) ?_
    refine own_go (B := T35.setTop (mkF m 99 #[.val (.int p0), .val (.int (6 : Int32)), .val (.ref b1), .val (.int (0 : Int32))] [])) (fun _ k => XS.icmpNo X35.here hx rfl (hb hby at_96) rfl (by decide) k) ?_
    refine own_go (B := T35.setTop (mkF m 100 #[.val (.int p0), .val (.int (6 : Int32)), .val (.ref b1), .val (.int (0 : Int32))] [(.int (1 : Int32))])) (fun _ k => XT.iconstV X35.here hx rfl (1 : Int32) (hb hby at_99) rfl k) ?_
    refine own_go (B := T35.setTop (mkF m 104 #[.val (.int p0), .val (.int (6 : Int32)), .val (.ref b1), .val (.int (0 : Int32))] [(.int (1 : Int32))])) (fun _ k => XS.goto X35.here hx rfl (pc0 := 100) (pc' := 104) rfl (hb hby at_100) (by decide) (by decide) k) ?_
    exact own_ret X35 hx (t := .boolean) hrt rfl (Or.inl ⟨rfl, by simp, _, rfl⟩) (hb hby at_104) hlk ⟨rfl, N35⟩ (by decide) (by decide)
  · refine own_go (B := T21.setTop (mkF m 79 #[.val (.int p0), .val (.int (7 : Int32)), .val (.ref b1), .unset] [(.int (7 : Int32))])) (fun _ k => XS.iloadN X21.here hx rfl (hb hby at_78) rfl k) ?_
    refine own_go (B := T21.setTop (mkF m 80 #[.val (.int p0), .val (.int (7 : Int32)), .val (.ref b1), .unset] [(.int (3 : Int32)), (.int (7 : Int32))])) (fun _ k => XT.iconstV X21.here hx rfl (3 : Int32) (hb hby at_79) rfl k) ?_
    refine own_go (B := T21.setTop (mkF m 87 #[.val (.int p0), .val (.int (7 : Int32)), .val (.ref b1), .unset] [])) (fun _ k => XS.icmpYes X21.here hx rfl (pc0 := 80) (pc' := 87) rfl (hb hby at_80) rfl (by decide) (by decide) (by decide) k) ?_
    refine own_go (B := T21.setTop (mkF m 88 #[.val (.int p0), .val (.int (7 : Int32)), .val (.ref b1), .unset] [(.int (0 : Int32))])) (fun _ k => XT.iconstV X21.here hx rfl (0 : Int32) (hb hby at_87) rfl k) ?_
    refine own_go (B := T21.setTop (mkF m 89 #[.val (.int p0), .val (.int (7 : Int32)), .val (.ref b1), .val (.int (0 : Int32))] [])) (fun _ k => XS.istoreN X21.here hx rfl (hb hby at_88) rfl (l' := #[.val (.int p0), .val (.int (7 : Int32)), .val (.ref b1), .val (.int (0 : Int32))]) rfl k) ?_
    refine own_go (B := T21.setTop (mkF m 90 #[.val (.int p0), .val (.int (7 : Int32)), .val (.ref b1), .val (.int (0 : Int32))] [(.ref b1)])) (fun _ k => XS.aloadN X21.here hx rfl (hb hby at_89) rfl rfl k) ?_
    refine own_go (B := T21.setTop (mkF m 91 #[.val (.int p0), .val (.int (7 : Int32)), .val (.ref b1), .val (.int (0 : Int32))] [(.int (7 : Int32)), (.ref b1)])) (fun _ k => XS.iloadN X21.here hx rfl (hb hby at_90) rfl k) ?_
    obtain ⟨cl36, Ar36, q36a, q36b, q36c, q36d, q36e⟩ := V21
    have i36 := inb_of (j := (7 : Int32)) q36b ⟨by decide, by decide⟩
    refine own_go (B := T21.setTop (mkF m 92 #[.val (.int p0), .val (.int (7 : Int32)), .val (.ref b1), .val (.int (0 : Int32))] [(.ref (A 7))])) (fun _ k => X21.aaload hx (j := (7 : Int32)) (v := (.ref (A 7))) (by rw [e21]; exact Ar36.1) (State.isArrayOf_alike hZ.alike Ar36.2.1) rfl Ar36.2.2 i36 (Has.at q36d i36 rfl) (g := (mkF m 91 #[.val (.int p0), .val (.int (7 : Int32)), .val (.ref b1), .val (.int (0 : Int32))] [(.int (7 : Int32)), (.ref b1)])) rfl rfl (hb hby at_91) _ k) ?_
    obtain ⟨cq37, kq37, q37a, q37b, q37c⟩ := isOf hZ e21 (E_SS.ext x21)
    obtain ⟨_, _, ⟨T37, L37, k37, n37⟩, -, X37, ⟨Lc37, hQ37, l37, y37, z37⟩, st37⟩ := X21.virtualBack hx (y := (⟨"com/example/facet/facet/model/AttributeType", "isKeyType", "()Z"⟩ : MethodName)) (z := (⟨"com/example/facet/facet/model/AttributeType", "isKeyType", "()Z"⟩ : MethodName)) hown (mvT hZ (hw _ (List.mem_of_getElem? (i := 25) rfl))) (mvT hZ (hw _ (List.mem_of_getElem? (i := 26) rfl))) (notFace_of_selects (args := #[]) (mvT hZ (hw _ (List.mem_of_getElem? (i := 28) rfl)))) (mvT hZ (hw _ (List.mem_of_getElem? (i := 28) rfl))) (mvT hZ (hw _ (List.mem_of_getElem? (i := 27) rfl))) (by decide) (own_back (W := 0) (rm1_7 l Z a0 hw []  A hW h21 x21 ) hZ (hw _ (List.mem_of_getElem? (i := 29) rfl)) (hw _ (List.mem_of_getElem? (i := 4) rfl)) (by decide) (by decide)) q37a q37c (g := (mkF m 92 #[.val (.int p0), .val (.int (7 : Int32)), .val (.ref b1), .val (.int (0 : Int32))] [(.ref (A 7))])) rfl (by rw [hml]; rfl) (Steps.refl _) (argsL := []) (rest := []) (lenOf pd_0 rfl) rfl (by show 2 * 0 + _ ≤ _; exact Nat.le_of_eq rfl) (hb hby at_92) (fun _ _ => ⟨rfl, e21, (by decide : 1 + 0 ≤ _), (by decide : 10 + 0 ≤ _)⟩)
    dsimp only [Pt.U, Pt.locs, Pt.cells, Pt.slots] at X37 l37 y37 z37 st37 hQ37
    subst l37 y37 z37
    obtain ⟨rfl, N37q, e37⟩ := hQ37
    have N37 := Fr.app N21 N37q
    refine own_go (B := T37.setTop (mkF m 95 #[.val (.int p0), .val (.int (7 : Int32)), .val (.ref b1), .val (.int (0 : Int32))] [(.int (0 : Int32))])) (fun _ k => st37.trans k) ?_
    refine own_go (B := T37.setTop (mkF m 96 #[.val (.int p0), .val (.int (7 : Int32)), .val (.ref b1), .val (.int (0 : Int32))] [(.int (0 : Int32)), (.int (0 : Int32))])) (fun _ k => XS.iloadN X37.here hx rfl (hb hby at_95) rfl k) ?_
    refine own_go (B := T37.setTop (mkF m 99 #[.val (.int p0), .val (.int (7 : Int32)), .val (.ref b1), .val (.int (0 : Int32))] [])) (fun _ k => XS.icmpNo X37.here hx rfl (hb hby at_96) rfl (by decide) k) ?_
    refine own_go (B := T37.setTop (mkF m 100 #[.val (.int p0), .val (.int (7 : Int32)), .val (.ref b1), .val (.int (0 : Int32))] [(.int (1 : Int32))])) (fun _ k => XT.iconstV X37.here hx rfl (1 : Int32) (hb hby at_99) rfl k) ?_
    refine own_go (B := T37.setTop (mkF m 104 #[.val (.int p0), .val (.int (7 : Int32)), .val (.ref b1), .val (.int (0 : Int32))] [(.int (1 : Int32))])) (fun _ k => XS.goto X37.here hx rfl (pc0 := 100) (pc' := 104) rfl (hb hby at_100) (by decide) (by decide) k) ?_
    exact own_ret X37 hx (t := .boolean) hrt rfl (Or.inl ⟨rfl, by simp, _, rfl⟩) (hb hby at_104) hlk ⟨rfl, N37⟩ (by decide) (by decide)
  · refine own_go (B := T21.setTop (mkF m 79 #[.val (.int p0), .val (.int (8 : Int32)), .val (.ref b1), .unset] [(.int (8 : Int32))])) (fun _ k => XS.iloadN X21.here hx rfl (hb hby at_78) rfl k) ?_
    refine own_go (B := T21.setTop (mkF m 80 #[.val (.int p0), .val (.int (8 : Int32)), .val (.ref b1), .unset] [(.int (3 : Int32)), (.int (8 : Int32))])) (fun _ k => XT.iconstV X21.here hx rfl (3 : Int32) (hb hby at_79) rfl k) ?_
    refine own_go (B := T21.setTop (mkF m 87 #[.val (.int p0), .val (.int (8 : Int32)), .val (.ref b1), .unset] [])) (fun _ k => XS.icmpYes X21.here hx rfl (pc0 := 80) (pc' := 87) rfl (hb hby at_80) rfl (by decide) (by decide) (by decide) k) ?_
    refine own_go (B := T21.setTop (mkF m 88 #[.val (.int p0), .val (.int (8 : Int32)), .val (.ref b1), .unset] [(.int (0 : Int32))])) (fun _ k => XT.iconstV X21.here hx rfl (0 : Int32) (hb hby at_87) rfl k) ?_
    refine own_go (B := T21.setTop (mkF m 89 #[.val (.int p0), .val (.int (8 : Int32)), .val (.ref b1), .val (.int (0 : Int32))] [])) (fun _ k => XS.istoreN X21.here hx rfl (hb hby at_88) rfl (l' := #[.val (.int p0), .val (.int (8 : Int32)), .val (.ref b1), .val (.int (0 : Int32))]) rfl k) ?_
    refine own_go (B := T21.setTop (mkF m 90 #[.val (.int p0), .val (.int (8 : Int32)), .val (.ref b1), .val (.int (0 : Int32))] [(.ref b1)])) (fun _ k => XS.aloadN X21.here hx rfl (hb hby at_89) rfl rfl k) ?_
    refine own_go (B := T21.setTop (mkF m 91 #[.val (.int p0), .val (.int (8 : Int32)), .val (.ref b1), .val (.int (0 : Int32))] [(.int (8 : Int32)), (.ref b1)])) (fun _ k => XS.iloadN X21.here hx rfl (hb hby at_90) rfl k) ?_
    obtain ⟨cl38, Ar38, q38a, q38b, q38c, q38d, q38e⟩ := V21
    have i38 := inb_of (j := (8 : Int32)) q38b ⟨by decide, by decide⟩
    refine own_go (B := T21.setTop (mkF m 92 #[.val (.int p0), .val (.int (8 : Int32)), .val (.ref b1), .val (.int (0 : Int32))] [(.ref (A 8))])) (fun _ k => X21.aaload hx (j := (8 : Int32)) (v := (.ref (A 8))) (by rw [e21]; exact Ar38.1) (State.isArrayOf_alike hZ.alike Ar38.2.1) rfl Ar38.2.2 i38 (Has.at q38d i38 rfl) (g := (mkF m 91 #[.val (.int p0), .val (.int (8 : Int32)), .val (.ref b1), .val (.int (0 : Int32))] [(.int (8 : Int32)), (.ref b1)])) rfl rfl (hb hby at_91) _ k) ?_
    obtain ⟨cq39, kq39, q39a, q39b, q39c⟩ := isOf hZ e21 (E_NS.ext x21)
    obtain ⟨_, _, ⟨T39, L39, k39, n39⟩, -, X39, ⟨Lc39, hQ39, l39, y39, z39⟩, st39⟩ := X21.virtualBack hx (y := (⟨"com/example/facet/facet/model/AttributeType", "isKeyType", "()Z"⟩ : MethodName)) (z := (⟨"com/example/facet/facet/model/AttributeType", "isKeyType", "()Z"⟩ : MethodName)) hown (mvT hZ (hw _ (List.mem_of_getElem? (i := 25) rfl))) (mvT hZ (hw _ (List.mem_of_getElem? (i := 26) rfl))) (notFace_of_selects (args := #[]) (mvT hZ (hw _ (List.mem_of_getElem? (i := 28) rfl)))) (mvT hZ (hw _ (List.mem_of_getElem? (i := 28) rfl))) (mvT hZ (hw _ (List.mem_of_getElem? (i := 27) rfl))) (by decide) (own_back (W := 0) (rm1_8 l Z a0 hw []  A hW h21 x21 ) hZ (hw _ (List.mem_of_getElem? (i := 29) rfl)) (hw _ (List.mem_of_getElem? (i := 4) rfl)) (by decide) (by decide)) q39a q39c (g := (mkF m 92 #[.val (.int p0), .val (.int (8 : Int32)), .val (.ref b1), .val (.int (0 : Int32))] [(.ref (A 8))])) rfl (by rw [hml]; rfl) (Steps.refl _) (argsL := []) (rest := []) (lenOf pd_0 rfl) rfl (by show 2 * 0 + _ ≤ _; exact Nat.le_of_eq rfl) (hb hby at_92) (fun _ _ => ⟨rfl, e21, (by decide : 1 + 0 ≤ _), (by decide : 10 + 0 ≤ _)⟩)
    dsimp only [Pt.U, Pt.locs, Pt.cells, Pt.slots] at X39 l39 y39 z39 st39 hQ39
    subst l39 y39 z39
    obtain ⟨rfl, N39q, e39⟩ := hQ39
    have N39 := Fr.app N21 N39q
    refine own_go (B := T39.setTop (mkF m 95 #[.val (.int p0), .val (.int (8 : Int32)), .val (.ref b1), .val (.int (0 : Int32))] [(.int (0 : Int32))])) (fun _ k => st39.trans k) ?_
    refine own_go (B := T39.setTop (mkF m 96 #[.val (.int p0), .val (.int (8 : Int32)), .val (.ref b1), .val (.int (0 : Int32))] [(.int (0 : Int32)), (.int (0 : Int32))])) (fun _ k => XS.iloadN X39.here hx rfl (hb hby at_95) rfl k) ?_
    refine own_go (B := T39.setTop (mkF m 99 #[.val (.int p0), .val (.int (8 : Int32)), .val (.ref b1), .val (.int (0 : Int32))] [])) (fun _ k => XS.icmpNo X39.here hx rfl (hb hby at_96) rfl (by decide) k) ?_
    refine own_go (B := T39.setTop (mkF m 100 #[.val (.int p0), .val (.int (8 : Int32)), .val (.ref b1), .val (.int (0 : Int32))] [(.int (1 : Int32))])) (fun _ k => XT.iconstV X39.here hx rfl (1 : Int32) (hb hby at_99) rfl k) ?_
    refine own_go (B := T39.setTop (mkF m 104 #[.val (.int p0), .val (.int (8 : Int32)), .val (.ref b1), .val (.int (0 : Int32))] [(.int (1 : Int32))])) (fun _ k => XS.goto X39.here hx rfl (pc0 := 100) (pc' := 104) rfl (hb hby at_100) (by decide) (by decide) k) ?_
    exact own_ret X39 hx (t := .boolean) hrt rfl (Or.inl ⟨rfl, by simp, _, rfl⟩) (hb hby at_104) hlk ⟨rfl, N39⟩ (by decide) (by decide)
  · refine own_go (B := T21.setTop (mkF m 79 #[.val (.int p0), .val (.int (9 : Int32)), .val (.ref b1), .unset] [(.int (9 : Int32))])) (fun _ k => XS.iloadN X21.here hx rfl (hb hby at_78) rfl k) ?_
    refine own_go (B := T21.setTop (mkF m 80 #[.val (.int p0), .val (.int (9 : Int32)), .val (.ref b1), .unset] [(.int (3 : Int32)), (.int (9 : Int32))])) (fun _ k => XT.iconstV X21.here hx rfl (3 : Int32) (hb hby at_79) rfl k) ?_
    refine own_go (B := T21.setTop (mkF m 87 #[.val (.int p0), .val (.int (9 : Int32)), .val (.ref b1), .unset] [])) (fun _ k => XS.icmpYes X21.here hx rfl (pc0 := 80) (pc' := 87) rfl (hb hby at_80) rfl (by decide) (by decide) (by decide) k) ?_
    refine own_go (B := T21.setTop (mkF m 88 #[.val (.int p0), .val (.int (9 : Int32)), .val (.ref b1), .unset] [(.int (0 : Int32))])) (fun _ k => XT.iconstV X21.here hx rfl (0 : Int32) (hb hby at_87) rfl k) ?_
    refine own_go (B := T21.setTop (mkF m 89 #[.val (.int p0), .val (.int (9 : Int32)), .val (.ref b1), .val (.int (0 : Int32))] [])) (fun _ k => XS.istoreN X21.here hx rfl (hb hby at_88) rfl (l' := #[.val (.int p0), .val (.int (9 : Int32)), .val (.ref b1), .val (.int (0 : Int32))]) rfl k) ?_
    refine own_go (B := T21.setTop (mkF m 90 #[.val (.int p0), .val (.int (9 : Int32)), .val (.ref b1), .val (.int (0 : Int32))] [(.ref b1)])) (fun _ k => XS.aloadN X21.here hx rfl (hb hby at_89) rfl rfl k) ?_
    refine own_go (B := T21.setTop (mkF m 91 #[.val (.int p0), .val (.int (9 : Int32)), .val (.ref b1), .val (.int (0 : Int32))] [(.int (9 : Int32)), (.ref b1)])) (fun _ k => XS.iloadN X21.here hx rfl (hb hby at_90) rfl k) ?_
    obtain ⟨cl40, Ar40, q40a, q40b, q40c, q40d, q40e⟩ := V21
    have i40 := inb_of (j := (9 : Int32)) q40b ⟨by decide, by decide⟩
    refine own_go (B := T21.setTop (mkF m 92 #[.val (.int p0), .val (.int (9 : Int32)), .val (.ref b1), .val (.int (0 : Int32))] [(.ref (A 9))])) (fun _ k => X21.aaload hx (j := (9 : Int32)) (v := (.ref (A 9))) (by rw [e21]; exact Ar40.1) (State.isArrayOf_alike hZ.alike Ar40.2.1) rfl Ar40.2.2 i40 (Has.at q40d i40 rfl) (g := (mkF m 91 #[.val (.int p0), .val (.int (9 : Int32)), .val (.ref b1), .val (.int (0 : Int32))] [(.int (9 : Int32)), (.ref b1)])) rfl rfl (hb hby at_91) _ k) ?_
    obtain ⟨cq41, kq41, q41a, q41b, q41c⟩ := isOf hZ e21 (E_BS.ext x21)
    obtain ⟨_, _, ⟨T41, L41, k41, n41⟩, -, X41, ⟨Lc41, hQ41, l41, y41, z41⟩, st41⟩ := X21.virtualBack hx (y := (⟨"com/example/facet/facet/model/AttributeType", "isKeyType", "()Z"⟩ : MethodName)) (z := (⟨"com/example/facet/facet/model/AttributeType", "isKeyType", "()Z"⟩ : MethodName)) hown (mvT hZ (hw _ (List.mem_of_getElem? (i := 25) rfl))) (mvT hZ (hw _ (List.mem_of_getElem? (i := 26) rfl))) (notFace_of_selects (args := #[]) (mvT hZ (hw _ (List.mem_of_getElem? (i := 28) rfl)))) (mvT hZ (hw _ (List.mem_of_getElem? (i := 28) rfl))) (mvT hZ (hw _ (List.mem_of_getElem? (i := 27) rfl))) (by decide) (own_back (W := 0) (rm1_9 l Z a0 hw []  A hW h21 x21 ) hZ (hw _ (List.mem_of_getElem? (i := 29) rfl)) (hw _ (List.mem_of_getElem? (i := 4) rfl)) (by decide) (by decide)) q41a q41c (g := (mkF m 92 #[.val (.int p0), .val (.int (9 : Int32)), .val (.ref b1), .val (.int (0 : Int32))] [(.ref (A 9))])) rfl (by rw [hml]; rfl) (Steps.refl _) (argsL := []) (rest := []) (lenOf pd_0 rfl) rfl (by show 2 * 0 + _ ≤ _; exact Nat.le_of_eq rfl) (hb hby at_92) (fun _ _ => ⟨rfl, e21, (by decide : 1 + 0 ≤ _), (by decide : 10 + 0 ≤ _)⟩)
    dsimp only [Pt.U, Pt.locs, Pt.cells, Pt.slots] at X41 l41 y41 z41 st41 hQ41
    subst l41 y41 z41
    obtain ⟨rfl, N41q, e41⟩ := hQ41
    have N41 := Fr.app N21 N41q
    refine own_go (B := T41.setTop (mkF m 95 #[.val (.int p0), .val (.int (9 : Int32)), .val (.ref b1), .val (.int (0 : Int32))] [(.int (0 : Int32))])) (fun _ k => st41.trans k) ?_
    refine own_go (B := T41.setTop (mkF m 96 #[.val (.int p0), .val (.int (9 : Int32)), .val (.ref b1), .val (.int (0 : Int32))] [(.int (0 : Int32)), (.int (0 : Int32))])) (fun _ k => XS.iloadN X41.here hx rfl (hb hby at_95) rfl k) ?_
    refine own_go (B := T41.setTop (mkF m 99 #[.val (.int p0), .val (.int (9 : Int32)), .val (.ref b1), .val (.int (0 : Int32))] [])) (fun _ k => XS.icmpNo X41.here hx rfl (hb hby at_96) rfl (by decide) k) ?_
    refine own_go (B := T41.setTop (mkF m 100 #[.val (.int p0), .val (.int (9 : Int32)), .val (.ref b1), .val (.int (0 : Int32))] [(.int (1 : Int32))])) (fun _ k => XT.iconstV X41.here hx rfl (1 : Int32) (hb hby at_99) rfl k) ?_
    refine own_go (B := T41.setTop (mkF m 104 #[.val (.int p0), .val (.int (9 : Int32)), .val (.ref b1), .val (.int (0 : Int32))] [(.int (1 : Int32))])) (fun _ k => XS.goto X41.here hx rfl (pc0 := 100) (pc' := 104) rfl (hb hby at_100) (by decide) (by decide) k) ?_
    exact own_ret X41 hx (t := .boolean) hrt rfl (Or.inl ⟨rfl, by simp, _, rfl⟩) (hb hby at_104) hlk ⟨rfl, N41⟩ (by decide) (by decide)
set_option maxRecDepth 65536 in
set_option maxHeartbeats 40000000 in
theorem comes_1 {Post : Tables → Env → Array Value → State → Outcome → State → Prop} (hpost : ∀ tb e args s v u, (limb_1_1.after args s (.returned v) u = true ∧ limb_1_2.after args s (.returned v) u = true ∧ True) → FrameEnd s (.returned v) u (Jvm.fieldLocs frame_1_writes args s ++ Jvm.arrayLocs frame_1_arrays args s ++ Jvm.staticLocs frame_1_statics s) 16 128 → Post tb e args s (.returned v) u) :
    ArmFor flags0 classFile x code maxLocals ret World_1 tables_1 room_1 Calls_1 rest_1 Pre_1 Post := by
  intro l hfl _ _ p e ha hc hk s m args below hf hA hF happ hP
  obtain ⟨hcalls, hrest, hpre⟩ := hP
  obtain ⟨-, -, -, hnamed, -, -, -, hat⟩ := (Spec.applies_iff hf).mp happ
  obtain ⟨hg, hn⟩ := and_e (Cond.before_iff.mp (show (Jvm.Cond.and given_1 narrow_1).before args s = true from hpre))
  obtain ⟨g1a, g1b⟩ := and_e hg
  obtain ⟨w0, rfl⟩ : ∃ w0 : Value, args = #[w0] := by
    have hs : args.size = 1 := by simpa [Cond.value, given_1] using g1a
    obtain ⟨L⟩ := args
    match L, hs with
    | [w0], _ => exact ⟨w0, rfl⟩
  have hw := fun d (hd : d ∈ tables_1) => atoms_spec (ws := Jvm.Cond.code x code maxLocals ret :: tables_1) hat d (List.mem_cons_of_mem _ hd)
  obtain ⟨i0, ei0⟩ := is_v g1b
  obtain rfl : w0 = (.int i0) := Option.some.inj ei0
  obtain ⟨u1a, u1b⟩ := and_e hn
  obtain ⟨u2a, u2b⟩ := and_e u1b
  obtain ⟨u3a, u3b⟩ := and_e u2b
  obtain ⟨u4a, u4b⟩ := and_e u3b
  obtain ⟨u5a, u5b⟩ := and_e u4b
  obtain ⟨u6a, u6b⟩ := and_e u5b
  obtain ⟨u7a, u7b⟩ := and_e u6b
  obtain ⟨u8a, u8b⟩ := and_e u7b
  obtain ⟨u9a, u9b⟩ := and_e u8b
  obtain ⟨u10a, u10b⟩ := and_e u9b
  obtain ⟨u11a, u11b⟩ := and_e u10b
  obtain ⟨u12a, u12b⟩ := and_e u11b
  obtain ⟨u13a, u13b⟩ := and_e u12b
  obtain ⟨u14a, u14b⟩ := and_e u13b
  obtain ⟨u15a, u15b⟩ := and_e u14b
  obtain ⟨u16a, u16b⟩ := and_e u15b
  obtain ⟨u17a, u17b⟩ := and_e u16b
  obtain ⟨u18a, u18b⟩ := and_e u17b
  obtain ⟨u19a, u19b⟩ := and_e u18b
  obtain ⟨a_S, ev_S⟩ := exa_v u1a
  obtain ⟨a_N, ev_N⟩ := exa_v u2a
  obtain ⟨a_B, ev_B⟩ := exa_v u3a
  obtain ⟨a_BOOL, ev_BOOL⟩ := exa_v u4a
  obtain ⟨a_NULL, ev_NULL⟩ := exa_v u5a
  obtain ⟨a_M, ev_M⟩ := exa_v u6a
  obtain ⟨a_L, ev_L⟩ := exa_v u7a
  obtain ⟨a_SS, ev_SS⟩ := exa_v u8a
  obtain ⟨a_NS, ev_NS⟩ := exa_v u9a
  obtain ⟨a_BS, ev_BS⟩ := exa_v u10a
  obtain ⟨n, o, h1, h2, h3, _, L, rfl, ⟨rfl, N⟩, hq⟩ := rm0 l s _ hw tables_1 i0 (fun n => [a_S, a_N, a_B, a_BOOL, a_NULL, a_M, a_L, a_SS, a_NS, a_BS].getD n 0) ⟨(Sta.start ev_S (Or.inr ⟨(hw _ (List.mem_of_getElem? (i := 4) rfl)), (hw _ (List.mem_of_getElem? (i := 5) rfl))⟩)), (Exa.start ev_S u1a), (Sta.start ev_N (Or.inr ⟨(hw _ (List.mem_of_getElem? (i := 4) rfl)), (hw _ (List.mem_of_getElem? (i := 8) rfl))⟩)), (Exa.start ev_N u2a), (Sta.start ev_B (Or.inr ⟨(hw _ (List.mem_of_getElem? (i := 4) rfl)), (hw _ (List.mem_of_getElem? (i := 10) rfl))⟩)), (Exa.start ev_B u3a), (Sta.start ev_BOOL (Or.inr ⟨(hw _ (List.mem_of_getElem? (i := 4) rfl)), (hw _ (List.mem_of_getElem? (i := 12) rfl))⟩)), (Exa.start ev_BOOL u4a), (Sta.start ev_NULL (Or.inr ⟨(hw _ (List.mem_of_getElem? (i := 4) rfl)), (hw _ (List.mem_of_getElem? (i := 14) rfl))⟩)), (Exa.start ev_NULL u5a), (Sta.start ev_M (Or.inr ⟨(hw _ (List.mem_of_getElem? (i := 4) rfl)), (hw _ (List.mem_of_getElem? (i := 16) rfl))⟩)), (Exa.start ev_M u6a), (Sta.start ev_L (Or.inr ⟨(hw _ (List.mem_of_getElem? (i := 4) rfl)), (hw _ (List.mem_of_getElem? (i := 18) rfl))⟩)), (Exa.start ev_L u7a), (Sta.start ev_SS (Or.inr ⟨(hw _ (List.mem_of_getElem? (i := 4) rfl)), (hw _ (List.mem_of_getElem? (i := 20) rfl))⟩)), (Exa.start ev_SS u8a), (Sta.start ev_NS (Or.inr ⟨(hw _ (List.mem_of_getElem? (i := 4) rfl)), (hw _ (List.mem_of_getElem? (i := 22) rfl))⟩)), (Exa.start ev_NS u9a), (Sta.start ev_BS (Or.inr ⟨(hw _ (List.mem_of_getElem? (i := 4) rfl)), (hw _ (List.mem_of_getElem? (i := 24) rfl))⟩)), (Exa.start ev_BS u10a), (own_fI ev_BOOL u11a), (own_fI ev_S u12a), (own_fI ev_N u13a), (own_fI ev_B u14a), (own_fI ev_NULL u15a), (own_fI ev_SS u16a), (own_fI ev_NS u17a), (own_fI ev_BS u18a), (own_fI ev_M u19a), (own_fI ev_L u19b)⟩ s.heap (own_xr _) p e ha hc hk s m _ below hf ((Spec.applies_iff_loose hf).mp happ).1 ⟨rfl, State.Warmed39.refl s, rfl⟩ trivial
  refine ⟨n, _, h1, h2, h3, hpost _ _ _ _ _ _ ⟨Cond.after_iff.mpr rfl, Cond.after_iff.mpr (eq_i res_at (Term.int_eval (1)) rfl), trivial⟩ ⟨hq.1, hq.2.1, (hq.2.2.sift fun y hy => Or.inr (N y hy)).mono (by decide) (by decide)⟩⟩
theorem main_1_1 : Claimed_1_1 := comes_1 fun _ _ _ _ _ _ h hF => ⟨h.1, hF⟩
theorem main_1_2 : Claimed_1_2 := comes_1 fun _ _ _ _ _ _ h hF => ⟨h.2.1, hF⟩
end Jvm.Pilot.@@N@@
namespace Jvm.Pilot.@@N@@
open Jvm Jvm.ClassFile Sem Op Lib Jvm.Free Jvm.Stand Jvm.Pilot.@@N@@.Jvm.D
/-! MADE BY PROGRAM (witnessworld.py) out of the Statement's table words and the real class files: 13 classes; the members and pool entries that the words name. The judged class is class 1, her method 1. -/
namespace start1
open Jvm.ClassFile
def u (s : String) : CpInfo := .utf8 (stringToUtf16 s)
/-- a pool by its gaps: so many unusable entries, then the entry; so many at the end -/
def gap : Nat → List CpInfo → List CpInfo
  | 0, r => r
  | n + 1, r => .unusable :: gap n r
def poolList (es : List (Nat × CpInfo)) (last : Nat) : List CpInfo := es.foldr (fun e r => gap e.1 (e.2 :: r)) (gap last [])
def pool (es : List (Nat × CpInfo)) (last : Nat) : Array CpInfo := ⟨poolList es last⟩
def fileOf (pool : Array CpInfo) (this : Nat) (attrs : Array Attribute := #[]) (ms : Array MethodInfo := #[]) (fl : Nat := 33) (sup : Nat := 0) (ifs : Array Nat := #[]) (fds : Array FieldInfo := #[]) : ClassFile where
  minorVersion := 0
  majorVersion := 65
  constantPool := pool
  accessFlags := fl
  thisClass := this
  superClass := sup
  interfaces := ifs
  fields := fds
  methods := ms
  attributes := attrs
def plain (name : String) (sup : Option ClassId) : Class where
  name := name
  kind := .ordinary
  loader := none
  accessFlags := 33
  super := sup
  interfaces := #[]
  cf := none
  fields := #[]
  methods := #[]
  instanceTypes := #[]
  staticTypes := #[]
  resolved := #[]
  callSites := []
  init := .initialized
  statics := none
  mirror := none

def pool0 : Array CpInfo := pool [(5, u "<init>"), (0, u "()V"), (1, .class_ 10), (1, u "java/lang/Object")] 113

def k0m0 : Method := { name := "<init>", desc := "()V", sig := { parameters := [], returnType := none }, accessFlags := 1, code := none }
/-- java/lang/Object -/
def k0 : Class := { plain "java/lang/Object" none with
  accessFlags := 33
  interfaces := #[]
  cf := some (fileOf pool0 8 #[] #[{ accessFlags := 1, nameIndex := 5, descriptorIndex := 6, attributes := #[] }] 33 0 #[] #[])
  fields := #[]
  methods := #[k0m0]
  instanceTypes := #[]
  staticTypes := #[]
  resolved := Array.replicate 124 none
  statics := none }

def pool1 : Array CpInfo := pool [(2, .class_ 4), (1, u "java/lang/Object"), (0, u "<init>"), (0, u "()V"), (0, .integer 2147483647), (0, .class_ 9), (0, u "com/example/facet/facet/model/AttributeType"), (0, .fieldref 8 11), (0, .nameAndType 12 13), (0, u "S"), (0, u "Lcom/example/facet/facet/model/AttributeType;"), (0, .fieldref 8 15), (0, .nameAndType 16 13), (0, u "N"), (0, .fieldref 8 18), (0, .nameAndType 19 13), (0, u "B"), (0, .fieldref 8 21), (0, .nameAndType 22 13), (0, u "BOOL"), (0, .fieldref 8 24), (0, .nameAndType 25 13), (0, u "NULL"), (0, .fieldref 8 27), (0, .nameAndType 28 13), (0, u "M"), (0, .fieldref 8 30), (0, .nameAndType 31 13), (0, u "L"), (0, .fieldref 8 33), (0, .nameAndType 34 13), (0, u "SS"), (0, .fieldref 8 36), (0, .nameAndType 37 13), (0, u "NS"), (0, .fieldref 8 39), (0, .nameAndType 40 13), (0, u "BS"), (0, .methodref 8 42), (0, .nameAndType 43 44), (0, u "isKeyType"), (0, u "()Z"), (0, .class_ 46), (0, u "com/example/facet/facet/model/AttributeTypeIsKeyTypePinLaw"), (2, u "law"), (0, u "(I)Z")] 5

def k1m0 : Method := { name := "<init>", desc := "()V", sig := { parameters := [], returnType := none }, accessFlags := 1, code := none }
def k1c1 : Code := { maxStack := 4, maxLocals := 4, code := code, exceptionTable := #[], attributes := #[] }
def k1m1 : Method := { name := "law", desc := "(I)Z", sig := { parameters := [.int], returnType := some .boolean }, accessFlags := 9, code := some k1c1 }
/-- com/example/facet/facet/model/AttributeTypeIsKeyTypePinLaw -/
def k1 : Class := { plain "com/example/facet/facet/model/AttributeTypeIsKeyTypePinLaw" (some 0) with
  accessFlags := 49
  interfaces := #[]
  cf := some (fileOf pool1 45 #[] #[{ accessFlags := 1, nameIndex := 5, descriptorIndex := 6, attributes := #[] }, { accessFlags := 9, nameIndex := 49, descriptorIndex := 50, attributes := #[] }] 49 2 #[] #[])
  fields := #[]
  methods := #[k1m0, k1m1]
  instanceTypes := #[]
  staticTypes := #[]
  resolved := Array.replicate 56 none
  statics := none }

def pool2 : Array CpInfo := pool [(1, .class_ 2), (0, u "java/lang/constant/Constable"), (0, .class_ 4), (0, u "java/lang/Object")] 6

/-- java/lang/constant/Constable -/
def k2 : Class := { plain "java/lang/constant/Constable" (some 0) with
  accessFlags := 1537
  interfaces := #[]
  cf := some (fileOf pool2 1 #[] #[] 1537 3 #[] #[])
  fields := #[]
  methods := #[]
  instanceTypes := #[]
  staticTypes := #[]
  resolved := Array.replicate 11 none
  statics := none }

def pool3 : Array CpInfo := pool [(1, .class_ 2), (0, u "java/lang/Comparable"), (0, .class_ 4), (0, u "java/lang/Object")] 7

/-- java/lang/Comparable -/
def k3 : Class := { plain "java/lang/Comparable" (some 0) with
  accessFlags := 1537
  interfaces := #[]
  cf := some (fileOf pool3 1 #[] #[] 1537 3 #[] #[])
  fields := #[]
  methods := #[]
  instanceTypes := #[]
  staticTypes := #[]
  resolved := Array.replicate 12 none
  statics := none }

def pool4 : Array CpInfo := pool [(1, .class_ 2), (0, u "java/io/Serializable"), (0, .class_ 4), (0, u "java/lang/Object")] 2

/-- java/io/Serializable -/
def k4 : Class := { plain "java/io/Serializable" (some 0) with
  accessFlags := 1537
  interfaces := #[]
  cf := some (fileOf pool4 1 #[] #[] 1537 3 #[] #[])
  fields := #[]
  methods := #[]
  instanceTypes := #[]
  staticTypes := #[]
  resolved := Array.replicate 7 none
  statics := none }

def pool5 : Array CpInfo := pool [(2, .class_ 4), (1, u "java/lang/Enum"), (0, u "name"), (0, u "Ljava/lang/String;"), (2, u "ordinal"), (0, u "I"), (1, .class_ 14), (1, u "java/lang/Object"), (4, u "hash"), (86, .class_ 108), (1, u "java/lang/Enum$EnumDesc"), (2, .class_ 112), (0, u "java/lang/constant/Constable"), (0, .class_ 114), (0, u "java/lang/Comparable"), (0, .class_ 116), (0, u "java/io/Serializable")] 87

/-- java/lang/Enum -/
def k5 : Class := { plain "java/lang/Enum" (some 0) with
  accessFlags := 1057
  interfaces := #[2, 3, 4]
  cf := some (fileOf pool5 2 #[.nestMembers #[106]] #[] 1057 12 #[111, 113, 115] #[{ accessFlags := 18, nameIndex := 5, descriptorIndex := 6, attributes := #[] }, { accessFlags := 18, nameIndex := 9, descriptorIndex := 10, attributes := #[] }, { accessFlags := 2, nameIndex := 19, descriptorIndex := 10, attributes := #[] }])
  fields := #[{ name := "name", type := (.object "java/lang/String"), accessFlags := 18, slot := 0, constantValue := 0 }, { name := "ordinal", type := .int, accessFlags := 18, slot := 1, constantValue := 0 }, { name := "hash", type := .int, accessFlags := 2, slot := 2, constantValue := 0 }]
  methods := #[]
  instanceTypes := #[(.object "java/lang/String"), .int, .int]
  staticTypes := #[]
  resolved := Array.replicate 204 none
  statics := none }

def pool6 : Array CpInfo := pool [(1, .class_ 2), (0, u "com/example/facet/facet/model/AttributeType"), (0, .fieldref 1 4), (0, .nameAndType 5 6), (0, u "S"), (0, u "Lcom/example/facet/facet/model/AttributeType;"), (0, .fieldref 1 8), (0, .nameAndType 9 6), (0, u "N"), (0, .fieldref 1 11), (0, .nameAndType 12 6), (0, u "B"), (2, u "BOOL"), (2, u "NULL"), (2, u "M"), (2, u "L"), (2, u "SS"), (2, u "NS"), (2, u "BS"), (2, u "$VALUES"), (0, u "[Lcom/example/facet/facet/model/AttributeType;"), (6, .class_ 46), (1, u "java/lang/Enum"), (8, u "TYPES"), (42, u "isKeyType"), (0, u "()Z")] 4

def k6c0 : Code := { maxStack := 2, maxLocals := 1, code := prog_18_method_6_code, exceptionTable := #[], attributes := #[] }
def k6m0 : Method := { name := "isKeyType", desc := "()Z", sig := { parameters := [], returnType := some .boolean }, accessFlags := 1, code := some k6c0 }
/-- com/example/facet/facet/model/AttributeType -/
def k6 : Class := { plain "com/example/facet/facet/model/AttributeType" (some 5) with
  accessFlags := 16433
  interfaces := #[]
  cf := some (fileOf pool6 1 #[] #[{ accessFlags := 1, nameIndex := 98, descriptorIndex := 99, attributes := #[] }] 16433 44 #[] #[{ accessFlags := 16409, nameIndex := 5, descriptorIndex := 6, attributes := #[] }, { accessFlags := 16409, nameIndex := 9, descriptorIndex := 6, attributes := #[] }, { accessFlags := 16409, nameIndex := 12, descriptorIndex := 6, attributes := #[] }, { accessFlags := 16409, nameIndex := 15, descriptorIndex := 6, attributes := #[] }, { accessFlags := 16409, nameIndex := 18, descriptorIndex := 6, attributes := #[] }, { accessFlags := 16409, nameIndex := 21, descriptorIndex := 6, attributes := #[] }, { accessFlags := 16409, nameIndex := 24, descriptorIndex := 6, attributes := #[] }, { accessFlags := 16409, nameIndex := 27, descriptorIndex := 6, attributes := #[] }, { accessFlags := 16409, nameIndex := 30, descriptorIndex := 6, attributes := #[] }, { accessFlags := 16409, nameIndex := 33, descriptorIndex := 6, attributes := #[] }, { accessFlags := 26, nameIndex := 55, descriptorIndex := 37, attributes := #[] }, { accessFlags := 4122, nameIndex := 36, descriptorIndex := 37, attributes := #[] }])
  fields := #[{ name := "S", type := (.object "com/example/facet/facet/model/AttributeType"), accessFlags := 16409, slot := 0, constantValue := 0 }, { name := "N", type := (.object "com/example/facet/facet/model/AttributeType"), accessFlags := 16409, slot := 1, constantValue := 0 }, { name := "B", type := (.object "com/example/facet/facet/model/AttributeType"), accessFlags := 16409, slot := 2, constantValue := 0 }, { name := "BOOL", type := (.object "com/example/facet/facet/model/AttributeType"), accessFlags := 16409, slot := 3, constantValue := 0 }, { name := "NULL", type := (.object "com/example/facet/facet/model/AttributeType"), accessFlags := 16409, slot := 4, constantValue := 0 }, { name := "M", type := (.object "com/example/facet/facet/model/AttributeType"), accessFlags := 16409, slot := 5, constantValue := 0 }, { name := "L", type := (.object "com/example/facet/facet/model/AttributeType"), accessFlags := 16409, slot := 6, constantValue := 0 }, { name := "SS", type := (.object "com/example/facet/facet/model/AttributeType"), accessFlags := 16409, slot := 7, constantValue := 0 }, { name := "NS", type := (.object "com/example/facet/facet/model/AttributeType"), accessFlags := 16409, slot := 8, constantValue := 0 }, { name := "BS", type := (.object "com/example/facet/facet/model/AttributeType"), accessFlags := 16409, slot := 9, constantValue := 0 }, { name := "TYPES", type := (.array (.object "com/example/facet/facet/model/AttributeType")), accessFlags := 26, slot := 10, constantValue := 0 }, { name := "$VALUES", type := (.array (.object "com/example/facet/facet/model/AttributeType")), accessFlags := 4122, slot := 11, constantValue := 0 }]
  methods := #[k6m0]
  instanceTypes := #[(.object "java/lang/String"), .int, .int]
  staticTypes := #[(.object "com/example/facet/facet/model/AttributeType"), (.object "com/example/facet/facet/model/AttributeType"), (.object "com/example/facet/facet/model/AttributeType"), (.object "com/example/facet/facet/model/AttributeType"), (.object "com/example/facet/facet/model/AttributeType"), (.object "com/example/facet/facet/model/AttributeType"), (.object "com/example/facet/facet/model/AttributeType"), (.object "com/example/facet/facet/model/AttributeType"), (.object "com/example/facet/facet/model/AttributeType"), (.object "com/example/facet/facet/model/AttributeType"), (.array (.object "com/example/facet/facet/model/AttributeType")), (.array (.object "com/example/facet/facet/model/AttributeType"))]
  resolved := Array.replicate 104 none
  statics := some 0 }

def pool7 : Array CpInfo := pool [(1, u "java/lang/Cloneable"), (0, .class_ 1), (0, u "java/lang/Object"), (0, .class_ 3)] 3

/-- java/lang/Cloneable -/
def k7 : Class := { plain "java/lang/Cloneable" (some 0) with
  accessFlags := 1537
  interfaces := #[]
  cf := some (fileOf pool7 2 #[] #[] 1537 4 #[] #[])
  fields := #[]
  methods := #[]
  instanceTypes := #[]
  staticTypes := #[]
  resolved := Array.replicate 8 none
  statics := none }

/-- the primitive byte -/
def k8 : Class := { plain "byte" none with kind := .primitive 'B', accessFlags := 0x411 }
/-- [B -/
def k9 : Class := { plain "[B" (some 0) with kind := .array 8 .byte, interfaces := #[7, 4], accessFlags := 1041 }

/-- the primitive int -/
def k10 : Class := { plain "int" none with kind := .primitive 'I', accessFlags := 0x411 }
/-- [I -/
def k11 : Class := { plain "[I" (some 0) with kind := .array 10 .int, interfaces := #[7, 4], accessFlags := 1041 }

/-- [Lcom/example/facet/facet/model/AttributeType; -/
def k12 : Class := { plain "[Lcom/example/facet/facet/model/AttributeType;" (some 0) with kind := .array 6 (.object "com/example/facet/facet/model/AttributeType"), interfaces := #[7, 4], accessFlags := 1041 }

def heap : Heap := #[{ cls := 6, slots := #[.ref 1, .ref 2, .ref 3, .ref 4, .ref 5, .ref 6, .ref 7, .ref 8, .ref 9, .ref 10, .null, .null], vm := .statics 6 },
  { cls := 6, slots := #[.null, .int 0, .int 0], vm := .none },
  { cls := 6, slots := #[.null, .int 1, .int 0], vm := .none },
  { cls := 6, slots := #[.null, .int 2, .int 0], vm := .none },
  { cls := 6, slots := #[.null, .int 3, .int 0], vm := .none },
  { cls := 6, slots := #[.null, .int 4, .int 0], vm := .none },
  { cls := 6, slots := #[.null, .int 5, .int 0], vm := .none },
  { cls := 6, slots := #[.null, .int 6, .int 0], vm := .none },
  { cls := 6, slots := #[.null, .int 7, .int 0], vm := .none },
  { cls := 6, slots := #[.null, .int 8, .int 0], vm := .none },
  { cls := 6, slots := #[.null, .int 9, .int 0], vm := .none }]
def classes : Array Class := #[k0, k1, k2, k3, k4, k5, k6, k7, k8, k9, k10, k11, k12]
def interned : List (Array UInt16 × Addr) := []
def slotsUsed : Nat := 42
def theMethod : MethodId := ⟨1, 1⟩
def args0 : Array Value := #[.int 5]
def aboutOver (below : List Frame) : State where
  vm := { classes := classes, interned := interned.toArray }
  heap := heap
  slotsUsed := slotsUsed
  threads := #[{ frames := .invoking theMethod args0 :: below }]
def below0 : List Frame := [.native { method := ⟨0, 0⟩, args := #[] }]
def about1 : State := aboutOver below0
def p0 : Program := .bare "" "" ""
def e0 : Env := launch0.env 0 0 0
theorem w_frames : about1.frames = Frame.invoking theMethod args0 :: below0 := rfl
set_option maxRecDepth 65536 in
theorem w_args : argsFit about1.vm theMethod args0 = true := by decide +kernel
set_option maxRecDepth 65536 in
theorem w_heap : heapFits about1 = true := by decide +kernel
set_option maxRecDepth 65536 in
theorem w_runnable : about1.curStatus? = some .runnable := by decide +kernel
set_option maxRecDepth 65536 in
theorem w_alone : about1.alone = true := by decide +kernel
set_option maxRecDepth 65536 in
theorem w_named : about1.methodNamed? x = some theMethod := by decide +kernel
set_option maxRecDepth 65536 in
theorem w_hears : about1.hears theMethod below0 = true := by decide +kernel
set_option maxRecDepth 65536 in
theorem w_ripe : about1.ripe theMethod args0 below0 = true := by decide +kernel
theorem w_running : about1.status = .running := rfl
set_option maxRecDepth 65536 in
theorem w_room : about1.hasRoom e0.platform room_1 = true :=
  launch0.hasRoom_least _ room_1 (by decide +kernel) (by decide +kernel) (by decide +kernel) (by decide +kernel) (by decide +kernel) (by decide +kernel)
theorem allAtoms_all (ts : List Jvm.Cond) (a : Array Jvm.Value) (st : Jvm.State) : (allAtoms ts).before a st = ts.all (fun c => c.before a st) := by
  induction ts with
  | nil => rfl
  | cons c t ih =>
    show (Jvm.Cond.and c (allAtoms t)).before a st = _
    rw [Jvm.Cond.before_and, ih, List.all_cons]
def words1 : List Jvm.Cond := Jvm.Cond.code x code maxLocals ret :: tables_1
/-- a 'code' word, met by the world's own term for the bytes: nothing is compared byte by byte -/
theorem code_word {y : MethodName} {bytes : ByteArray} {mx : Nat} {rt : Option FieldType} {a : Array Value} {s : State} {m : MethodId} {meth : Method} {c : Code} (h1 : s.methodNamed? y = some m) (h2 : s.vm.method? m = some meth) (h3 : meth.code = some c) (h4 : c.code = bytes)
    (h5 : (c.maxLocals == mx && c.exceptionTable.isEmpty && decide (c.maxStack ≤ mostOperands) && decide (meth.sig.returnType = rt) && !meth.locks && decide (parseMethodDescriptor y.desc = some meth.sig)) = true) : (Jvm.Cond.code y bytes mx rt).before a s = true := by
  simp only [Bool.and_eq_true, beq_iff_eq, Bool.not_eq_true', decide_eq_true_eq] at h5
  obtain ⟨⟨⟨⟨⟨g1, g2⟩, g3⟩, g4⟩, g5⟩, g6⟩ := h5
  simp [Cond.before, Cond.holds, Cond.value, h1, h2, h3, h4, g1, g2, g3, g4, g5, g6]
def isCode : Jvm.Cond → Bool
  | .code _ _ _ _ => true
  | _ => false
theorem all_split {L : List Jvm.Cond} {P : Jvm.Cond → Bool} (h1 : L.all (fun c => isCode c || P c) = true) (h2 : ∀ c ∈ L.filter isCode, P c = true) : L.all P = true := by
  refine List.all_eq_true.mpr fun c hc => ?_
  have h := List.all_eq_true.mp h1 c hc
  rcases Bool.eq_false_or_eq_true (isCode c) with hi | hi
  · exact h2 c (List.mem_filter.mpr ⟨hc, hi⟩)
  · simpa [hi] using h
set_option maxRecDepth 65536 in
theorem w_c0 : (Jvm.Cond.code x code maxLocals ret).before args0 about1 = true := code_word (m := ⟨1, 1⟩) (meth := k1m1) (c := k1c1) (by decide +kernel) rfl rfl rfl (by decide +kernel)
set_option maxRecDepth 65536 in
theorem w_c1 : (Jvm.Cond.code ({ cls := "com/example/facet/facet/model/AttributeType", name := "isKeyType", desc := "()Z" } : Jvm.MethodName) prog_18_method_6_code (1 : Nat) (Option.some Jvm.ClassFile.FieldType.boolean)).before args0 about1 = true := code_word (m := ⟨6, 0⟩) (meth := k6m0) (c := k6c0) (by decide +kernel) rfl rfl rfl (by decide +kernel)
def codes1 : List Jvm.Cond := [Jvm.Cond.code x code maxLocals ret, Jvm.Cond.code ({ cls := "com/example/facet/facet/model/AttributeType", name := "isKeyType", desc := "()Z" } : Jvm.MethodName) prog_18_method_6_code (1 : Nat) (Option.some Jvm.ClassFile.FieldType.boolean)]
set_option maxRecDepth 65536 in
theorem codes_eq : words1.filter isCode = codes1 := rfl
theorem w_codes : ∀ c ∈ words1.filter isCode, c.before args0 about1 = true := by
  rw [codes_eq]
  intro c hc
  simp only [codes1, List.mem_cons, List.not_mem_nil, or_false] at hc
  rcases hc with rfl | rfl
  · exact w_c0
  · exact w_c1
set_option maxRecDepth 65536 in
theorem w_t1 : (words1.take 24).all (fun c => isCode c || c.before args0 about1) = true := by decide +kernel
set_option maxRecDepth 65536 in
theorem w_t2 : (words1.drop 24).all (fun c => isCode c || c.before args0 about1) = true := by decide +kernel
theorem w_tables : (allAtoms (Jvm.Cond.code x code maxLocals ret :: tables_1)).before args0 about1 = true := by
  rw [allAtoms_all]
  show words1.all (fun c => c.before args0 about1) = true
  refine all_split ?_ w_codes
  rw [← List.take_append_drop 24 words1, List.all_append, w_t1, w_t2]
  rfl
set_option maxRecDepth 65536 in
theorem w_case : (Jvm.Cond.and given_1 narrow_1).before args0 about1 = true := by decide +kernel
theorem w_applies : (headSpec (Jvm.Cond.code x code maxLocals ret :: tables_1) room_1).applies x e0.platform about1 = true :=
  (Spec.applies_iff w_frames).mpr ⟨w_running, w_runnable, w_alone, w_named, w_hears, w_ripe, w_room, w_tables⟩
theorem atStart : AtStart classFile x code maxLocals ret World_1 tables_1 room_1 Calls_1 rest_1 Pre_1 launch0 p0 e0 about1 theMethod args0 below0 :=
  ⟨lists_1, trivial, launch0.admits_env _ _ _, launch0.least_env, fairChoices_fair.cas, fairChoices_fair.clock, w_frames, w_args, w_heap, w_applies, trivial, trivial, w_case⟩
end start1
theorem witness_1 : WitnessClaimed_1 := ⟨start1.p0, start1.e0, start1.about1, start1.theMethod, start1.args0, start1.below0, start1.atStart⟩
end Jvm.Pilot.@@N@@
