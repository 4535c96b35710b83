import PyProof.Rows.All
import Wide.All
import OpenK.AllK
import Wide.FinOn
import PySem.Challenge.RW_pe0012_01
set_option Elab.async false
set_option maxRecDepth 100000

/-! ## MBase -/
section
open PySem PySem.W PyProof.Rows PySem.Calls
namespace Mine

abbrev pg : Program := PySem.Challenge.rw_pe0012_01.row.prog

def recAt (n : Nat) : DefRec := match pg.main.body[n]? with
  | some (.FunctionDef name args body _ _ _ scope _ _ pos) => ⟨name, args, body, scope, pos⟩
  | _ => ⟨"", default, [], default, default⟩

/-- what the top has left: the globals, the built-ins, the text's defs -/
structure Facts (mg mb : Str → Option Value) (h : Heap) : Prop where
  g : h.Ns mainGlobals mg
  b : h.Ns builtinsNs mb
  nolimit : h.NoLimit
  blt : ∀ x : Str, x ≠ "__name__" → mb x = bootBuiltins x
  miss : ∀ x ∈ (["next", "len", "ord", "chr", "iter", "range", "isinstance", "list", "abs", "StopIteration"] : List Str), mg x = none
  tick : ∃ t, mg "TICK" = some (.str "'" t)
  fn : ∀ n ∈ [1, 4, 6, 7, 8, 9, 10], ∃ a o pm code doc, mg (recAt n).name = some (.ref a) ∧ h.get? a = some o ∧
    o.data = .func (docDef (recAt n).name (recAt n).params (recAt n).body (recAt n).scope pm code doc) ∧ h.CodeRec code (recAt n).name

theorem Facts.keeps {mg mb : Str → Option Value} {h h' : Heap} (T : Facts mg mb h) (hk : ∀ b o, h.get? b = some o → h'.get? b = some o) : Facts mg mb h' where
  g := T.g.keeps hk
  b := T.b.keeps hk
  nolimit := T.nolimit.keeps hk
  blt := T.blt
  miss := T.miss
  tick := T.tick
  fn := fun n hn => let ⟨a, o, pm, c, d, h1, h2, h3, h4⟩ := T.fn n hn; ⟨a, o, pm, c, d, h1, hk _ _ h2, h3, h4.keeps hk⟩

section
variable {M : Model} {A : Around} {E : Value → Shared → Prop} {s : Shared} {env : Env} {mg mb : Str → Option Value} {Q : Value → Shared → Prop}

theorem nmB {x : Str} {pos : Pos} {v : Value} (T : Facts mg mb s.heap) (hm : x ∈ (["next", "len", "ord", "chr", "iter", "range", "isinstance", "list", "abs", "StopIteration"] : List Str))
    (hv : bootBuiltins x = some v) (h : Q v s) (hn : x ≠ "__name__" := by decide)
    (hk : env.scope.kind = .function := by rfl) (hx : env.kindOf x = some .globalImplicit := by rfl) (hg : env.globals = mainGlobals := by rfl) (hb : env.builtins = builtinsNs := by rfl)
    (hd : (x == ("__debug__" : Str)) = false := by decide) : wpAny M A (eval (.Name x pos) env) Q E s :=
  Name_function_global hk hx (loadGlobal_builtin (env := env) (hg ▸ T.g) (T.miss x hm) (hb ▸ T.b) ((T.blt x hn).trans hv) h) hd

theorem nmG {x : Str} {pos : Pos} {v : Value} (T : Facts mg mb s.heap) (hv : mg x = some v) (h : Q v s)
    (hk : env.scope.kind = .function := by rfl) (hx : env.kindOf x = some .globalImplicit := by rfl) (hg : env.globals = mainGlobals := by rfl)
    (hd : (x == ("__debug__" : Str)) = false := by decide) : wpAny M A (eval (.Name x pos) env) Q E s :=
  Name_function_global hk hx (loadGlobal_global (env := env) (hg ▸ T.g) hv h) hd

theorem nmL {x : Str} {pos : Pos} {v : Value} {m : Str → Option Value} (hn : s.heap.Ns env.locals m) (hv : m x = some v) (h : Q v s)
    (hk : env.scope.kind = .function := by rfl) (hl : env.kindOf x = some .local := by rfl)
    (hd : (x == ("__debug__" : Str)) = false := by decide) : wpAny M A (eval (.Name x pos) env) Q E s :=
  wpAny_Name (wpAny_loadName_local hk hl hn hv h) hd
end

theorem stS {M : Model} {A : Around} {E : Value → Shared → Prop} {s : Shared} {env : Env} {g : Heap} {L : Addr} {m : Str → Option Value} {x : Str} {v : Value} {Q : Unit → Shared → Prop} (F : Fr g L s.heap m)
    (h : ∀ h', Fr g L h' (fun y => if y = x then some v else m y) → Heap.SameBut L s.heap h' → Q () { s with heap := h', toks := s.toks + 1 })
    (hL : env.locals = L := by rfl) (hk : env.scope.kind = .function := by rfl) (hl : env.kindOf x = some .local := by rfl) :
    wpAny M A (storeName env x v) Q E s := by
  subst hL
  exact wpAny_storeName_local hl F.ns (fun h' hn hs => h h' (F.set hn hs) hs) (by rw [hk]; rfl)

theorem frSame {g : Heap} {L b : Addr} {h h' : Heap} {m : Str → Option Value} (F : Fr g L h m) (hs : Heap.SameBut b h h') (hb : g.get? b = none) (hbL : b ≠ L) : Fr g L h' m :=
  ⟨F.ns.sameBut hs (Ne.symm hbL), fun c o e => (hs.2 c (fun q => by rw [q, hb] at e; cases e)).trans (F.keep c o e), F.above⟩

/-- a while, its test and body by a measure -/
theorem while_rule {prog : Program} {w : World} {A : Around} {E : Value → Shared → Prop} {s : Shared} {env : Env} {test : Expr} {body : List Stmt} {pos : Pos} {Q : Flow → Shared → Prop}
    (I : Nat → Shared → Prop)
    (turn : ∀ n s, I n s → wpAny (model prog w) A (isTrue test env (eval test env)) (fun b s₂ =>
        if b then wpAny (model prog w) A (execs body env) (fun f s₃ => match f with
            | .next | .cont => ∃ m, m < n ∧ I m s₃
            | .brk => Q .next s₃
            | .ret v => Q (.ret v) s₃) E s₂
        else Q .next s₂) E s)
    (n : Nat) (h : I n s) (hE : PassesOwn (model prog w) A env E := by passes_own) :
    wpAny (model prog w) A (exec (.While test body [] pos) env) Q E s := by
  refine wpAny_While (codeAny_whileLoop I ?_ n h)
  intro n s hI
  refine wpAny_mono (turn n s hI) (fun b s₂ h₂ => ?_) hE
  cases b with
  | false =>
    simp only [Bool.false_eq_true, if_false] at h₂ ⊢
    exact wpAny_execs_nil h₂
  | true =>
    simp only [if_true] at h₂ ⊢
    refine wpAny_mono h₂ (fun f s₃ h₃ => ?_) hE
    cases f <;> exact h₃

end Mine
end

/-! ## MNext -/
section
open PySem PySem.W PyProof.Rows PySem.Calls
namespace Mine

section
variable {prog : Program} {w : World} {A : Around} {E : Value → Shared → Prop} {s : Shared}

theorem nx_item {it l : Addr} {i : Nat} {items : Array Value} {x : Value} {Q : Value → Shared → Prop} (hit : s.heap.IsListIter it l i)
    (hl : s.heap.IsList l items) (hx : items[i]? = some x)
    (hQ : ∀ h', h'.IsListIter it l (i + 1) → Heap.SameBut it s.heap h' → Q x { s with heap := h' }) :
    wpAny (model prog w) A (call (.builtin "next") [.ref it]) Q E s := by
  obtain ⟨o, ho, hc, hd⟩ := id hit
  obtain ⟨ol, hol, _, nl, hdl⟩ := hl
  refine call_function_entry (by decide +kernel) (by decide +kernel) kdk_entry_next (kdk_args_next _) ?_
  unfold Builtin.«next»
  refine wpAny_bind (m := someArgs "next" 1 2 _) (wpAny_of_eq (a := [Value.ref it]) (by first | rfl | kernel_rfl!) ?_)
  dsimp only
  refine wpAny_bind (wpAny_specialOf (name := Str.ofString "__next__") hit.typeIs slot_listiter_next.lookup ?_)
  refine wpAny_ite_split (fun hab => absurd hab (by decide)) (fun _ => ?_)
  refine wpAny_bind (wpAny_callSpecial?_slot (name := Str.ofString "__next__") hit.typeIs slot_listiter_next
    (wpAny_call_entry slot_listiter_next hit.typeIs entry_listiter_next ?_ (args_listiter_next _)))
  show wpAny _ _ (field (.ref it) 0 >>= _) _ _ s
  refine wpAny_bind (wpAny_field ho hd (x := .ref l) rfl ?_)
  show wpAny _ _ (if (Value.ref l == Value.none) = true then _ else _) _ _ s
  rw [if_neg (show ¬ ((Value.ref l == Value.none) = true) from Bool.false_ne_true)]
  show wpAny _ _ (field (.ref it) 1 >>= _) _ _ s
  refine wpAny_bind (wpAny_field ho hd (x := .int i 0) rfl ?_)
  show wpAny _ _ (seqItems? (.ref l) >>= _) _ _ s
  refine wpAny_bind (wpAny_seqItems hol hdl ?_)
  simp only [Int.toNat_natCast, hx]
  refine wpAny_bind (wpAny_setField ho hd (by simp) (wpAny_pure ⟨x, rfl, wpAny_pure ⟨_, rfl, hQ _ ?_ (Heap.SameBut.update ..)⟩⟩))
  exact ⟨_, Heap.get?_update_self _ ho (Obj.isFreed_of_fields (Obj.data_mapFields hd _)), (Obj.cls_mapFields ..).trans hc, by
    rw [Obj.data_mapFields hd]; simp [rawInt]⟩

theorem nx_end {it l : Addr} {i : Nat} {items : Array Value} {Q : Value → Shared → Prop} (hh : A.handled = none)
    (hit : s.heap.IsListIter it l i) (hl : s.heap.IsList l items) (hx : items[i]? = none)
    (hE : ∀ h₁ h' e, Heap.SameBut it s.heap h₁ → Heap.MadeExcOf h₁ h' e (.type "StopIteration") [] → E (.ref e) { s with heap := h' }) :
    wpAny (model prog w) A (call (.builtin "next") [.ref it]) Q E s := by
  obtain ⟨o, ho, hc, hd⟩ := id hit
  obtain ⟨ol, hol, _, nl, hdl⟩ := hl
  refine call_function_entry (by decide +kernel) (by decide +kernel) kdk_entry_next (kdk_args_next _) ?_
  unfold Builtin.«next»
  refine wpAny_bind (m := someArgs "next" 1 2 _) (wpAny_of_eq (a := [Value.ref it]) (by first | rfl | kernel_rfl!) ?_)
  dsimp only
  refine wpAny_bind (wpAny_specialOf (name := Str.ofString "__next__") hit.typeIs slot_listiter_next.lookup ?_)
  refine wpAny_ite_split (fun hab => absurd hab (by decide)) (fun _ => ?_)
  refine wpAny_bind (wpAny_callSpecial?_slot (name := Str.ofString "__next__") hit.typeIs slot_listiter_next
    (wpAny_call_entry slot_listiter_next hit.typeIs entry_listiter_next ?_ (args_listiter_next _)))
  show wpAny _ _ (field (.ref it) 0 >>= _) _ _ s
  refine wpAny_bind (wpAny_field ho hd (x := .ref l) rfl ?_)
  show wpAny _ _ (if (Value.ref l == Value.none) = true then _ else _) _ _ s
  rw [if_neg (show ¬ ((Value.ref l == Value.none) = true) from Bool.false_ne_true)]
  show wpAny _ _ (field (.ref it) 1 >>= _) _ _ s
  refine wpAny_bind (wpAny_field ho hd (x := .int i 0) rfl ?_)
  show wpAny _ _ (seqItems? (.ref l) >>= _) _ _ s
  refine wpAny_bind (wpAny_seqItems hol hdl ?_)
  simp only [Int.toNat_natCast, hx]
  refine wpAny_bind (wpAny_rule (wpAny_bind (wpAny_setField ho hd (by simp) ?_)))
  show wpAny _ _ (newExc (.type "StopIteration") [] >>= _) _ _ _
  refine wpAny_bind ?_
  simp only [newExc, newTuple]
  refine wpAny_bind (wpAny_newObj_type ?_ (by size_fits))
  refine wpAny_bind (m := firstArgMember _ _) (wpAny_of_eq (a := Value.none) (by first | rfl | (simp only [firstArgMember]; rfl)) ?_)
  refine wpAny_newObj_type ?_ (by size_fits)
  simp only [raiseNew]
  refine wpAny_bind (wpAny_handled ?_)
  first | rw [show A.in1.handled = none from hh] | rw [show A.in1.in1.handled = none from hh] | rw [hh]
  refine wpAny_bind (wpAny_pure (wpAny_throw ?_))
  refine hE _ _ _ (Heap.SameBut.update ..) ⟨fun b o hb => Heap.get?_push_of_some _ (Heap.get?_push_of_some _ hb), Heap.get?_none_of_le (by simp), _, ?_, Heap.get?_none_of_le (Nat.le_refl _), ?_⟩
  · exact Heap.get?_push_size _ rfl
  · exact Heap.get?_push_of_some _ (Heap.get?_push_size _ rfl)
end
end Mine
end

/-! ## MPlain1 -/
section
open PySem PySem.W PyProof.Rows
namespace Mine

abbrev zs (cs : List Nat) : List Int := cs.map fun c : Nat => (c : Int)

def more : Nat → List Nat → Option (Nat × List Nat)
  | _, [] => none
  | v, b :: r => if b < 64 then some (v * 64 + b % 64, r) else more (v * 64 + b % 64) r
def parse : List Nat → Option (Nat × List Nat)
  | [] => none
  | b :: r => if b < 64 then some (b % 64, r) else more (b % 64) r

theorem and63 (b : Nat) : Builtin.bitAnd (b : Int) 63 = ((b % 64 : Nat) : Int) := by
  have h := kbt_mask (b : Int) 6
  have e : (2 : Int) ^ 6 = 64 := by decide
  rw [e] at h
  exact h.trans (by omega)
theorem and64 (b : Nat) (h : b < 128) : (Builtin.bitAnd (b : Int) 64 != 0) = decide (¬ b < 64) := by
  have h := kbt_bit (b : Int) 6
  have e : (2 : Int) ^ 6 = 64 := by decide
  rw [e] at h
  rw [h]
  by_cases hb : b < 64
  · have : (b : Int) / 64 = 0 := by omega
    simp [this, hb]
  · have : (b : Int) / 64 = 1 := by omega
    simp [this, hb]
theorem bitOr_nn (x y : Nat) : Builtin.bitOr (x : Int) (y : Int) = ((x ||| y : Nat) : Int) := by
  unfold Builtin.bitOr Builtin.bitAnd
  have h1 : ∀ z : Nat, decide (0 ≤ Builtin.bitNot (z : Int)) = false := fun z => by unfold Builtin.bitNot; simp; omega
  have h2 : ∀ z : Nat, (Builtin.bitNot (Builtin.bitNot (z : Int))) = (z : Int) := fun z => by unfold Builtin.bitNot; omega
  simp only [h1, h2, Int.toNat_natCast]
theorem or64 (v b : Nat) (h : b < 64) : Builtin.bitOr ((v : Int) * 64) (b : Int) = ((v * 64 + b : Nat) : Int) := by
  have e : Builtin.bitOr ((v : Int) * 64) (b : Int) = (((v * 64) ||| b : Nat) : Int) := by
    have : ((v : Int) * 64) = ((v * 64 : Nat) : Int) := by omega
    rw [this]
    exact bitOr_nn _ _
  rw [e]
  have q := Nat.two_pow_add_eq_or_of_lt (i := 6) (b := b) (by simpa using h) v
  have e2 : 2 ^ 6 * v = v * 64 := by omega
  rw [e2] at q
  rw [q]
end Mine
end

/-! ## MPv -/
section
open PySem PySem.W PyProof.Rows PySem.Calls
namespace Mine

abbrev envAt (n : Nat) (L a : Addr) (cd : Value) : Env := envOf (recAt n).name (recAt n).scope L a cd

theorem ints_at {vs : List Value} {cs : List Nat} (h : IntsAre vs (zs cs)) (i : Nat) :
    (∀ c, cs[i]? = some c → ∃ t, vs[i]? = some (.int c t)) ∧ (cs[i]? = none → vs[i]? = none) := by
  constructor
  · intro c hc
    exact h.get i (c : Int) (by simp [hc])
  · intro hn
    have e1 := h.length
    simp only [List.length_map] at e1
    rw [List.getElem?_eq_none_iff] at hn ⊢
    omega

theorem pv_body {w : World} {A : Around} {E : Value → Shared → Prop} {Q : Flow → Shared → Prop} {s : Shared} {mg mb : Str → Option Value} {g : Heap} {L a : Addr} {cd : Value} {it l : Addr} {items : Array Value} {cs : List Nat} {i : Nat} {m : Str → Option Value}
    (hh : A.handled = none) (T : Facts mg mb g) (F : Fr g L s.heap m) (hm : m "iterator" = some (.ref it))
    (hit : s.heap.IsListIter it l i) (hitg : g.get? it = none) (hitL : it ≠ L) (hi : i ≤ cs.length)
    (hl : g.IsList l items) (hI : IntsAre items.toList (zs cs)) (hc : ∀ c ∈ cs, c < 128) (hlen : cs.length ≤ 1000000)
    (hok : ∀ v j t h' tk m', parse (cs.drop i) = some (v, cs.drop j) → i < j → j ≤ cs.length → Fr g L h' m' → h'.IsListIter it l j → Q (.ret (.int (v : Int) t)) { s with heap := h', toks := tk })
    (hex : ∀ h₁ h' e tk m', parse (cs.drop i) = none → Fr g L h₁ m' → Heap.MadeExcOf h₁ h' e (.type "StopIteration") [] → E (.ref e) { s with heap := h', toks := tk })
    (hE : PassesOwn (model pg w) A (envAt 1 L a cd) E) :
    wpAny (model pg w) A (execs (recAt 1).body (envAt 1 L a cd)) Q E s := by
  have itS : ∀ {h h' : Heap} {j : Nat}, h.IsListIter it l j → Heap.SameBut L h h' → h'.IsListIter it l j := fun x hs => x.extBut hs.extBut hitL
  have ls : ∀ {h : Heap} {m' : Str → Option Value}, Fr g L h m' → h.IsList l items := fun F' => hl.at fun o e => F'.keep l o e
  refine wpAny_execs_cons (wpAny_Assign_Name (Call_ ?_))
  refine nmB (T.keeps F.keep) (by simp) Boot.«next» ?_
  refine PyProof.Rows.callWith_builtin1 (args_cons ?_)
  refine nmL F.ns hm (args_nil ?_)
  cases hci : cs[i]? with
  | none =>
    have hd : cs.drop i = [] := List.drop_eq_nil_of_le (List.getElem?_eq_none_iff.mp hci)
    have hx : items[i]? = none := by simpa using (ints_at hI i).2 hci
    refine nx_end hh hit (ls F) hx fun h₁ h' e hs hme => ?_
    exact hex h₁ h' e _ m (by rw [hd]; rfl) (frSame F hs hitg hitL) hme
  | some c =>
    obtain ⟨t0, hx⟩ := (ints_at hI i).1 c hci
    have hlt : i < cs.length := (List.getElem?_eq_some_iff.mp hci).1
    have hcm : c < 128 := hc c (List.mem_of_getElem? hci)
    have hdr : cs.drop i = c :: cs.drop (i + 1) := by
      rw [List.drop_eq_getElem_cons hlt]
      congr 1
      exact (List.getElem?_eq_some_iff.mp hci).2
    refine nx_item hit (ls F) (x := .int c t0) (by simpa using hx) fun h₁ hit₁ hs₁ => ?_
    refine stS (frSame F hs₁ hitg hitL) fun h₂ F₂ hs₂ => ?_
    refine wpAny_execs_cons (wpAny_Assign_Name (wpAny_BinOp (nmL F₂.ns (v := .int c t0) (by rfl) (wpAny_Constant_int (and_int ?_)))))
    rw [and63]
    refine stS F₂ fun h₃ F₃ hs₃ => ?_
    refine wpAny_execs_cons (while_rule (fun n s' => ∃ h' tk m' b v j tb tv, s' = { s with heap := h', toks := tk } ∧ n = cs.length - j ∧ Fr g L h' m' ∧ m' "iterator" = some (.ref it) ∧ m' "b" = some (.int ((b : Nat) : Int) tb) ∧
        m' "val" = some (.int ((v : Nat) : Int) tv) ∧ h'.IsListIter it l j ∧ i < j ∧ j ≤ cs.length ∧ b < 128 ∧ v < 2 ^ (6 * j) ∧
        parse (cs.drop i) = if b < 64 then some (v, cs.drop j) else more v (cs.drop j)) ?_ (cs.length - (i + 1))
        ⟨h₃, _, _, c, c % 64, i + 1, t0, _, rfl, rfl, F₃, (by exact hm), rfl, rfl, itS (itS hit₁ hs₂) hs₃, Nat.lt_succ_self _, hlt, hcm, ?_, ?_⟩ hE)
    · rintro n s' ⟨h', tk, m', b, v, j, tb, tv, rfl, rfl, F', hmi, hmb, hmv, hit', hij, hj, hb, hv, hp⟩
      refine isTrue_plain (wpAny_BinOp (nmL F'.ns hmb (wpAny_Constant_int (and_int (truthy_int ?_)))))
      rw [and64 b hb]
      by_cases hb64 : b < 64
      · simp only [hb64, not_true, decide_false, Bool.false_eq_true, if_false]
        rw [if_pos hb64] at hp
        refine wpAny_execs_cons (wpAny_Return_some (nmL F'.ns hmv ?_))
        exact hok v j tv h' _ m' hp hij hj F' hit'
      · simp only [hb64, not_false_eq_true, decide_true, if_true]
        rw [if_neg hb64] at hp
        have hv' : (v : Int).natAbs < 2 ^ (6 * j) := by simpa using hv
        refine wpAny_execs_cons (wpAny_AugAssign_Name (wpAny_loadName_local rfl rfl F'.ns hmv (wpAny_Constant_int (ilshift_int_or hh (fun q => absurd q (by decide)) (fun _ => ?_) (fun _ => ?_)))))
        · have e := intBits_le hv'
          omega
        have e6 : (v : Int) * 2 ^ (6 : Int).toNat = (v : Int) * 64 := by
          have : (2 : Int) ^ (6 : Int).toNat = 64 := by decide
          rw [this]
        rw [e6]
        refine stS F' fun h₄ F₄ hs₄ => ?_
        refine wpAny_execs_cons (wpAny_Assign_Name (Call_ ?_))
        refine nmB (T.keeps F₄.keep) (by simp) Boot.«next» ?_
        refine PyProof.Rows.callWith_builtin1 (args_cons ?_)
        refine nmL F₄.ns (v := .ref it) (by exact hmi) (args_nil ?_)
        cases hcj : cs[j]? with
        | none =>
          have hd : cs.drop j = [] := List.drop_eq_nil_of_le (List.getElem?_eq_none_iff.mp hcj)
          have hx : items[j]? = none := by simpa using (ints_at hI j).2 hcj
          refine nx_end hh (itS hit' hs₄) (ls F₄) hx fun h₅ h' e hs hme => ?_
          exact hex h₅ h' e _ _ (by rw [hp, hd]; rfl) (frSame F₄ hs hitg hitL) hme
        | some d =>
          obtain ⟨t5, hx⟩ := (ints_at hI j).1 d hcj
          have hltj : j < cs.length := (List.getElem?_eq_some_iff.mp hcj).1
          have hdm : d < 128 := hc d (List.mem_of_getElem? hcj)
          have hdr' : cs.drop j = d :: cs.drop (j + 1) := by
            rw [List.drop_eq_getElem_cons hltj]
            congr 1
            exact (List.getElem?_eq_some_iff.mp hcj).2
          refine nx_item (itS hit' hs₄) (ls F₄) (x := .int d t5) (by simpa using hx) fun h₅ hit₅ hs₅ => ?_
          refine stS (frSame F₄ hs₅ hitg hitL) fun h₆ F₆ hs₆ => ?_
          refine wpAny_execs_cons (wpAny_AugAssign_Name (wpAny_loadName_local rfl rfl F₆.ns (v := .int ((v : Int) * 64) _) rfl (wpAny_BinOp (nmL F₆.ns (v := .int d t5) rfl (wpAny_Constant_int (and_int ?_))))))
          rw [and63]
          refine ior_int ?_
          rw [or64 v (d % 64) (Nat.mod_lt _ (by decide))]
          refine stS F₆ fun h₇ F₇ hs₇ => wpAny_execs_nil ?_
          refine ⟨cs.length - (j + 1), by omega, h₇, _, _, d, v * 64 + d % 64, j + 1, t5, _, rfl, rfl, F₇, by exact hmi, rfl, rfl, itS (itS hit₅ hs₆) hs₇, by omega, hltj, hdm, ?_, ?_⟩
          · have e1 : 2 ^ (6 * (j + 1)) = 2 ^ (6 * j) * 64 := by rw [Nat.mul_add, Nat.pow_add]
            have e2 : d % 64 < 64 := Nat.mod_lt _ (by decide)
            rw [e1]
            generalize 2 ^ (6 * j) = P at hv ⊢
            omega
          · rw [hp, hdr']
            rfl
    · have e1 : 2 ^ (6 * (i + 1)) = 2 ^ (6 * i) * 64 := by rw [Nat.mul_add, Nat.pow_add]
      have e2 : c % 64 < 64 := Nat.mod_lt _ (by decide)
      have e3 : 0 < 2 ^ (6 * i) := Nat.pow_pos (by decide)
      rw [e1]
      generalize 2 ^ (6 * i) = P at e3 ⊢
      omega
    · rw [hdr]
      rfl
end Mine
end

/-! ## MPvCall -/
section
open PySem PySem.W PyProof.Rows PySem.Calls
namespace Mine

abbrev eh : Heap := {}
theorem eh_none (b : Addr) : eh.get? b = none := by
  unfold Heap.get?
  simp

abbrev frs (l : List Env) : List Addr := l.filterMap (·.frame)

theorem pv_call {w : World} {A : Around} {E : Value → Shared → Prop} {Q : Value → Shared → Prop} {s : Shared} {mg mb : Str → Option Value} {g0 : Heap} {envs : List Env} {f : Addr} {it l : Addr} {items : Array Value} {cs : List Nat} {i : Nat}
    (hh : A.handled = none) (hroom : A.depth < recursionLimit) (hfr : A.frames = some envs) (hff : s.heap.FunFrames eh envs)
    (T : Facts mg mb g0) (hk0 : ∀ b o, g0.get? b = some o → s.heap.get? b = some o) (h0it : g0.get? it = none) (hf : mg (recAt 1).name = some (.ref f))
    (hit : s.heap.IsListIter it l i) (hi : i ≤ cs.length) (hne : l ≠ it)
    (hl : s.heap.IsList l items) (hI : IntsAre items.toList (zs cs)) (hc : ∀ c ∈ cs, c < 128) (hlen : cs.length ≤ 1000000)
    (hok : ∀ v j t h' tk, parse (cs.drop i) = some (v, cs.drop j) → i < j → j ≤ cs.length → (∀ b o, b ≠ it → s.heap.get? b = some o → h'.get? b = some o) → h'.IsListIter it l j → Q (.int (v : Int) t) { s with heap := h', toks := tk })
    (hex : ∀ h' e tk B t0, parse (cs.drop i) = none → Heap.FlyingW B envs e (.type "StopIteration") (.ref t0) h' → (∀ b o, b ≠ it → b ∉ frs envs → s.heap.get? b = some o → B.get? b = some o) → s.heap.UpToSlots h' → E (.ref e) { s with heap := h', toks := tk }) :
    wpAny (model pg w) A (call (.ref f) [.ref it]) Q E s := by
  obtain ⟨f', o, pm, code, doc, h1, h2, h3, h4⟩ := T.fn 1 (by simp)
  rw [hf] at h1
  cases h1
  obtain ⟨oi, hoi, _, hoid⟩ := id hit
  have hitsz := Heap.lt_size hoi
  refine wpAny_call (call_plain (binds := [("iterator", .ref it)]) hroom (hk0 _ _ h2) h3 (T.nolimit.keeps hk0) (h4.keeps hk0) rfl (by intro x hx; obtain rfl := List.mem_singleton.mp hx; rfl) fun h₁ F₁ => ?_)
  have F₂ : Fr (s.heap.hide it) s.heap.objs.size h₁ _ := ⟨F₁.ns, fun b o e => F₁.keep b o (Heap.of_hide e), by rw [Heap.hide_size]; exact Nat.le_refl _⟩
  have keepG : ∀ b o, b ≠ it → s.heap.get? b = some o → (s.heap.hide it).get? b = some o := fun b o hb e => (Heap.hide_ne _ hb).trans e
  have T₂ : Facts mg mb (s.heap.hide it) := T.keeps fun b o e => keepG b o (fun q => by rw [q, h0it] at e; cases e) (hk0 b o e)
  refine pv_body (it := it) (l := l) (items := items) (cs := cs) (i := i) hh T₂ F₂ rfl ?_ (Heap.hide_self _ _) (Nat.ne_of_lt hitsz) hi (hl.at fun o e => keepG l o hne e) hI hc hlen ?_ ?_ PassesOwn.leaving
  · exact hit.at fun o e => F₁.keep _ o e
  · intro v j t h' tk m' hp hij hj F' hit'
    exact hok v j t h' tk hp hij hj (fun b o hb e => F'.keep b o (keepG b o hb e)) hit'
  · intro h₃ h' e tk m' hp F₃ hme
    have ffs : h₃.FunFrames eh envs := hff.of_keeps fun b o hb hnf => ⟨o, F₃.keep b o (keepG b o (fun q => by rw [q, hoi] at hb; cases hb; exact hnf _ hoid) hb), rfl⟩
    have ff : h₃.FunFrames eh (envAt 1 s.heap.objs.size f code :: envs) := .cons (by show (recAt 1).scope.kind ≠ _; decide) rfl F₃.ns (eh_none _) ffs
    refine wpAny_leaves_madeW (base := hideAll h₃ (frs (envAt 1 s.heap.objs.size f code :: envs))) (Around.frames_deeper hfr) rfl (fun b o q => of_hideAll _ q) (funFrames_hide ff fun env he b hb => List.mem_filterMap.mpr ⟨env, he, hb⟩) hme fun h₄ t0 x1 x2 x3 x4 => ?_
    refine hex h₄ e tk _ t0 hp x1 (fun b o hb hbf e => ?_) (fun b o hb hnf => ?_)
    · refine hideAll_get _ (F₃.keep b o (keepG b o hb e)) ?_
      intro hm
      have hm' : b ∈ s.heap.objs.size :: frs envs := hm
      rcases List.mem_cons.mp hm' with q | q
      · rw [q] at e; exact absurd (Heap.lt_size e) (Nat.lt_irrefl _)
      · exact hbf q
    · refine ((Heap.UpToSlots.of_keeps hme.keeps).trans x4) b o (F₃.keep b o (keepG b o (fun q => by rw [q, hoi] at hb; cases hb; exact hnf _ hoid) hb)) hnf
end Mine
end

/-! ## MRd -/
section
open PySem PySem.W PyProof.Rows PySem.Calls
namespace Mine

inductive RdAll : List Nat → List Nat → Prop
  | nil {cs} : parse cs = none → RdAll cs []
  | cons {cs v r ns} : parse cs = some (v, r) → RdAll r ns → RdAll cs (v :: ns)

theorem Keeps.refl (s : Shared) : Keeps s s := ⟨s.heap, s.toks, rfl, fun _ _ e => e⟩
theorem Keeps.of {s : Shared} {h' : Heap} {tk : Nat} (hk : ∀ b o, s.heap.get? b = some o → h'.get? b = some o) : Keeps s { s with heap := h', toks := tk } := ⟨h', tk, rfl, hk⟩

section
variable {prog : Program} {w : World} {A : Around} {E : Value → Shared → Prop} {s : Shared}
theorem it_list {l : Addr} {items : Array Value} {Q : Value → Shared → Prop} (hl : s.heap.IsList l items)
    (hQ : Q (.ref s.heap.objs.size) { s with heap := s.heap.push { cls := .type "list_iterator", data := .fields #[.ref l, .int 0 0] } }) :
    wpAny (model prog w) A (call (.builtin "iter") [.ref l]) Q E s := by
  refine call_function_entry (by decide +kernel) (by decide +kernel) kdk_entry_iter (kdk_args_iter _) ?_
  unfold Builtin.«iter»
  refine wpAny_bind (m := someArgs "iter" 1 2 _) (wpAny_of_eq (a := [Value.ref l]) (by first | rfl | kernel_rfl!) ?_)
  show wpAny _ _ (pyIter (.ref l) >>= _) _ _ _
  exact wpAny_bind (wpAny_pyIter_list hl (wpAny_pure ⟨_, rfl, hQ⟩))
end

theorem ints_of_signs : ∀ {cs : List Nat} {vs ys : List Value}, vs.length = cs.length → (∀ (j : Nat) (v : Value), vs[j]? = some v → ∃ (c : Nat) (u : Tok), cs[j]? = some c ∧ v = Value.str ⟨#[c]⟩ u) →
    Paired (fun v y => ∃ c u t, v = Value.str ⟨#[c]⟩ u ∧ y = Value.int (c : Nat) t) vs ys → IntsAre ys (zs cs)
  | [], [], _, _, _, .nil => .nil
  | [], _ :: _, _, h, _, _ => by simp at h
  | c :: cs, [], _, h, _, _ => by simp at h
  | c :: cs, v :: vs, _ :: ys, hl, hj, .cons hF t => by
    obtain ⟨c', u, h1, h2⟩ := hj 0 v rfl
    obtain ⟨c2, u2, t2, h3, h4⟩ := hF
    simp only [List.getElem?_cons_zero, Option.some.injEq] at h1
    subst h1 h2 h4
    cases h3
    exact .cons _ _ (ints_of_signs (by simpa using hl) (fun j v hv => hj (j + 1) v (by simpa using hv)) t)

theorem filter_tt {α : Type} (l : List α) : l.filter (fun _ => true) = l := by simp

theorem rd_comp {w : World} {A : Around} {E : Value → Shared → Prop} {Q : Flow → Shared → Prop} {s : Shared} {mg mb : Str → Option Value} {g : Heap} {L a : Addr} {cd : Value} {x : Str} {t : Tok} {m : Str → Option Value} {st0 st1 st2 : Stmt}
    (hh : A.handled = none) (T : Facts mg mb g) (F : Fr g L s.heap m) (hm : m "text" = some (.str x t)) (hsz : x.cps.size ≤ 1000000)
    (hb : (recAt 8).body = [st0, st1, st2])
    (hok : ∀ D ys it h' tk, IntsAre ys.toList (zs x.cps.toList) → Fr g L h' (fun y => if y = "iterator" then some (.ref it) else m y) → h'.IsList D ys → h'.IsListIter it D 0 → D ≠ it → g.get? D = none → g.get? it = none → D ≠ L → it ≠ L → Q .next { s with heap := h', toks := tk }) :
    wpAny (model pg w) A (exec st0 (envAt 8 L a cd)) Q E s := by
  cases hb
  refine wpAny_Assign_Name (Call_ ?_)
  refine nmB (T.keeps F.keep) (by simp) Boot.«iter» ?_
  refine PyProof.Rows.callWith_builtin1 (args_cons ?_)
  refine wpAny_ListComp_free (fun _ => true) (fun v y => ∃ c u t, v = Value.str ⟨#[c]⟩ u ∧ y = Value.int (c : Nat) t) (closureFor_none (by decide)) (by decide) rfl (by decide) rfl ?_
  refine nmL F.ns hm ?_
  refine wpAny_pyIter_str fun o St W hst => ?_
  have hIg : ∀ b o', g.get? b = some o' → b ∉ [s.heap.objs.size] := fun b o' e q => by
    obtain rfl := List.mem_singleton.mp q
    exact absurd (Heap.lt_size (F.keep _ _ e)) (Nat.lt_irrefl _)
  refine ⟨_, [s.heap.objs.size], [s.heap.objs.size], x.cps.size, SignAt x, St, rfl, W A hh, by rw [sizeLine_eq]; omega, hst, ?_, ⟨?_, ?_⟩, ?_⟩
  · intro b hb
    obtain rfl := List.mem_singleton.mp hb
    rw [Heap.size_push]; exact Nat.lt_succ_self _
  · intro C i v s₃ m₃ E' _ _ _ _ _ _
    exact wpAny_tests_nil ⟨rfl, Keeps.refl _⟩
  · intro C i v s₃ m₃ E' _ hP _ hn hmx hk _
    obtain ⟨c, u, _, rfl⟩ := hP
    have T₃ : Facts mg mb s₃.heap := T.keeps fun b o' e => hk b o' (hIg b o' e) (Heap.get?_push_of_some _ (F.keep b o' e))
    refine Call_ (nmB T₃ (by simp) Boot.«ord» (PyProof.Rows.callWith_builtin1 (args_cons (nmL hn hmx (args_nil (P.ord_of_char ?_))))))
    exact ⟨⟨c, u, _, rfl, rfl⟩, Keeps.of fun _ _ e => e⟩
  · intro D h' tk ys vs hD hlD _ hlen hP hpair hk
    rw [filter_tt] at hpair
    have hints : IntsAre ys.toList (zs x.cps.toList) := ints_of_signs (by simpa using hlen) (fun j v hv => by
      obtain ⟨c, u, h1, h2⟩ := hP j v hv
      exact ⟨c, u, by simpa using h1, h2⟩) hpair
    have keep : ∀ b o', s.heap.get? b = some o' → h'.get? b = some o' := fun b o' e => hk b o' (fun q => by
      obtain rfl := List.mem_singleton.mp q
      exact absurd (Heap.lt_size e) (Nat.lt_irrefl _)) (Heap.get?_push_of_some _ e)
    have hDs : s.heap.get? D = none := by
      cases q : s.heap.get? D with
      | none => rfl
      | some o' => rw [Heap.get?_push_of_some _ q] at hD; cases hD
    have F' : Fr g L h' m := ⟨F.ns.keeps keep, fun b o' e => keep b o' (F.keep b o' e), F.above⟩
    refine args_nil (it_list hlD ?_)
    refine stS (F'.push _) fun h₂ F₂ hs₂ => ?_
    obtain ⟨oD, hoD, hr⟩ := id hlD
    have hDsz := Heap.lt_size hoD
    obtain ⟨oL, _, _, hL, _⟩ := id F'.ns
    have hLsz := Heap.lt_size hL
    have hgi : g.get? h'.objs.size = none := by
      cases q : g.get? h'.objs.size with
      | none => rfl
      | some o' => exact absurd (Heap.lt_size (F'.keep _ _ q)) (Nat.lt_irrefl _)
    have hgD : g.get? D = none := by
      cases q : g.get? D with
      | none => rfl
      | some o' => rw [F.keep _ _ q] at hDs; cases hDs
    have hDL : D ≠ L := by
      rintro rfl
      obtain ⟨oL, _, _, hL, _⟩ := F.ns
      rw [hL] at hDs; cases hDs
    refine hok D ys h'.objs.size h₂ _ hints F₂ ((hlD.push _).extBut hs₂.extBut hDL) ?_ (Nat.ne_of_lt hDsz) hgD hgi hDL (Nat.ne_of_gt hLsz)
    exact Heap.IsListIter.extBut ⟨_, Heap.get?_push_size _ rfl, rfl, rfl⟩ hs₂.extBut (Nat.ne_of_gt hLsz)
end Mine
end

/-! ## MRd2 -/
section
open PySem PySem.W PyProof.Rows PySem.Calls
namespace Mine

theorem ints_snoc : ∀ {vs : List Value} {ns : List Nat} {v : Nat} {t : Tok}, IntsAre vs (zs ns) → IntsAre (vs ++ [.int (v : Int) t]) (zs (ns ++ [v]))
  | _, [], v, t, h => by cases h; exact .cons _ _ .nil
  | _, n :: ns, v, t, h => by
    cases h with
    | cons _ _ h' => exact .cons _ _ (ints_snoc h')

theorem rd_call {w : World} {A : Around} {E : Value → Shared → Prop} {Q : Value → Shared → Prop} {s : Shared} {mg mb : Str → Option Value} {g0 : Heap} {envs : List Env} {f : Addr} {x : Str} {t : Tok} {ns : List Nat}
    (hh : A.handled = none) (hroom : A.depth + 2 < recursionLimit) (hfr : A.frames = some envs) (hff : s.heap.FunFrames eh envs)
    (T : Facts mg mb g0) (hk0 : ∀ b o, g0.get? b = some o → s.heap.get? b = some o) (h0f : ∀ b ∈ frs envs, g0.get? b = none) (hf : mg (recAt 8).name = some (.ref f))
    (hc : ∀ c ∈ x.cps.toList, c < 128) (hlen : x.cps.size ≤ 1000000) (hns : RdAll x.cps.toList ns)
    (hok : ∀ N ys h' tk, IntsAre ys.toList (zs ns) → h'.IsList N ys → s.heap.get? N = none → (∀ b o, b ∉ frs envs → s.heap.get? b = some o → h'.get? b = some o) → s.heap.UpToSlots h' → Q (.ref N) { s with heap := h', toks := tk }) :
    wpAny (model pg w) A (call (.ref f) [.str x t]) Q E s := by
  obtain ⟨f', o, pm, code, doc, h1, h2, h3, h4⟩ := T.fn 8 (by simp)
  rw [hf] at h1
  cases h1
  obtain ⟨fv, ov, _, _, _, v1, v2, v3, _⟩ := T.fn 1 (by simp)
  refine wpAny_call (call_plain (binds := [("text", .str x t)]) (by omega) (hk0 _ _ h2) h3 (T.nolimit.keeps hk0) (h4.keeps hk0) rfl (by intro x hx; obtain rfl := List.mem_singleton.mp hx; rfl) fun h₁ F₁ => ?_)
  have T₁ : Facts mg mb s.heap := T.keeps hk0
  refine wpAny_execs_cons (rd_comp (hb := rfl) (x := x) (t := t) (by exact hh) T₁ F₁ rfl hlen fun D ys it h₂ tk₂ hI F₂ hlD hit hDi hgD hgi hDL hiL => ?_)
  refine wpAny_execs_cons (wpAny_Assign_Name (List_ (args_nil (wpAny_newList ?_))))
  refine stS (F₂.push _) fun h₃ F₃ hs₃ => ?_
  obtain ⟨oL, _, _, hL2, _⟩ := id F₂.ns
  have hLsz := Heap.lt_size hL2
  have hgN : s.heap.get? h₂.objs.size = none := by
    cases q : s.heap.get? h₂.objs.size with
    | none => rfl
    | some o' => exact absurd (Heap.lt_size (F₂.keep _ _ q)) (Nat.lt_irrefl _)
  obtain ⟨oD, hoD, _⟩ := id hlD
  obtain ⟨oi, hoi, _⟩ := id hit
  have hDN : D ≠ h₂.objs.size := Nat.ne_of_lt (Heap.lt_size hoD)
  have hiN : it ≠ h₂.objs.size := Nat.ne_of_lt (Heap.lt_size hoi)
  have hNL : h₂.objs.size ≠ s.heap.objs.size := Nat.ne_of_gt hLsz
  have hlN : h₃.PlainList h₂.objs.size #[] := ⟨0, (hs₃.2 _ hNL).trans (Heap.get?_push_size _ rfl)⟩
  have hlD₃ : h₃.IsList D ys := (hlD.push _).extBut hs₃.extBut hDL
  have hit₃ : h₃.IsListIter it D 0 := Heap.IsListIter.extBut (b := s.heap.objs.size) (Heap.IsListIter.at hit fun o e => Heap.get?_push_of_some _ e) hs₃.extBut hiL
  refine wpAny_execs_cons (wpAny_Try_except (wpAny_execs_cons ?_))
  refine while_rule (fun n s' => ∃ h' tk m' j done rest ws, s' = { s with heap := h', toks := tk } ∧ n = x.cps.toList.length - j ∧ Fr s.heap s.heap.objs.size h' m' ∧ m' "iterator" = some (.ref it) ∧ m' "numbers" = some (.ref h₂.objs.size) ∧
      h'.IsList D ys ∧ h'.IsListIter it D j ∧ j ≤ x.cps.toList.length ∧ h'.PlainList h₂.objs.size ws ∧ IntsAre ws.toList (zs done) ∧ ws.size ≤ j ∧ ns = done ++ rest ∧ RdAll (x.cps.toList.drop j) rest) ?_ x.cps.toList.length
      ⟨h₃, _, _, 0, [], ns, #[], rfl, rfl, F₃, rfl, rfl, hlD₃, hit₃, Nat.zero_le _, hlN, .nil, Nat.le_refl _, rfl, hns⟩ PassesOwn.looking
  rintro n s' ⟨h', tk, m', j, done, rest, ws, rfl, rfl, F', hmi, hmn, hlD', hit', hj, hlN', hws, hwsz, rfl, hrest⟩
  refine isTrue_plain (wpAny_Constant_bool (wpAny_truthy_bool ?_))
  simp only [if_true]
  obtain ⟨nN, hoN⟩ := id hlN'
  refine wpAny_execs_cons (wpAny_Expr_any (MethodCall_ (nmL F'.ns hmn (Calls.getMethod_list_append hoN rfl rfl ?_))))
  refine callWith_method1 (args_cons (Call_ ?_))
  refine nmG (T₁.keeps F'.keep) v1 (callWith_def v3 (args_cons (nmL F'.ns hmi (args_nil ⟨F'.keep _ _ (hk0 _ _ v2), ?_⟩))))
  have ff : h'.FunFrames eh (envAt 8 s.heap.objs.size f code :: envs) := .cons (by show (recAt 8).scope.kind ≠ _; decide) rfl F'.ns (eh_none _) (hff.of_keeps fun b o hb _ => ⟨o, F'.keep b o hb, rfl⟩)
  have hc' : ∀ c ∈ x.cps.toList, c < 128 := hc
  refine pv_call (it := it) (l := D) (items := ys) (cs := x.cps.toList) (i := j) (by exact hh) (by show A.depth + 1 < _; omega) (Around.frames_deeper hfr) ff T (fun b o e => F'.keep b o (hk0 b o e))
    (by cases q : g0.get? it with
        | none => rfl
        | some o' => rw [hk0 _ _ q] at hgi; cases hgi) v1 hit' hj hDi hlD' hI hc (by simpa using hlen) ?_ ?_
  · intro v j' tv h₄ tk₄ hp hjj hj' hk₄ hit₄
    have hLi : s.heap.objs.size ≠ it := Ne.symm hiL
    have F₄ : Fr s.heap s.heap.objs.size h₄ m' := ⟨F'.ns.at' fun o e => hk₄ _ o hLi e, fun b o e => hk₄ b o (fun q => by rw [q, hgi] at e; cases e) (F'.keep b o e), F'.above⟩
    have hlN₄ : h₄.PlainList h₂.objs.size ws := hlN'.at fun o e => hk₄ _ o (Ne.symm hiN) e
    have hwz : ws.size ≤ sizeLine := by
      rw [sizeLine_eq]
      have : x.cps.toList.length = x.cps.size := by simp
      omega
    refine args_nil (wpAny_list_append_plain (hsz := hwz) hlN₄ fun h₅ hlN₅ hs₅ => wpAny_execs_nil ?_)
    cases hrest with
    | nil hnone => rw [hp] at hnone; cases hnone
    | cons hp' hrest' =>
      rw [hp] at hp'
      cases hp'
      refine ⟨x.cps.toList.length - j', by omega, h₅, _, m', j', done ++ [v], _, ws.push (.int v tv), rfl, rfl, frSame F₄ hs₅ hgN hNL, hmi, hmn, (hlD'.at fun o e => hk₄ _ o hDi e).extBut hs₅.extBut hDN, hit₄.extBut hs₅.extBut hiN, hj', hlN₅, ?_, ?_, ?_, hrest'⟩
      · simpa using ints_snoc hws
      · simp; omega
      · simp
  · intro h₄ e tk₄ B t0 hp hfl hB hsm
    cases hrest with
    | cons hp' _ => rw [hp] at hp'; cases hp'
    | nil _ =>
    refine wpAny_looks_onW (Around.frames_deeper hfr) rfl hfl fun h₅ hheld₅ hsm₅ => ?_
    refine wpAny_landsW hheld₅ fun h₆ hfl₆ hsm₆ => ?_
    obtain ⟨ob, hob, hobc⟩ := hfl₆.there
    have hbase : ∀ b o, b ∉ frs envs → s.heap.get? b = some o → B.get? b = some o := fun b o hb e => hB b o (fun q => by rw [q, hgi] at e; cases e)
      (fun q => by
        have q' : b ∈ s.heap.objs.size :: frs envs := q
        rcases List.mem_cons.mp q' with q' | q'
        · rw [q'] at e; exact absurd (Heap.lt_size e) (Nat.lt_irrefl _)
        · exact hb q') (F'.keep b o e)
    have g0f : ∀ b o, g0.get? b = some o → b ∉ frs envs := fun b o e q => by rw [h0f b q] at e; cases e
    have T₆ : Facts mg mb h₆ := T.keeps fun b o e => hfl₆.1 b o (hbase b o (g0f b o e) (hk0 b o e))
    refine wpAny_handleBy_builtin (X := "StopIteration") (T := "StopIteration") (b := true) (by rw [isSubtype_type]; kernel_rfl) (by rw [isSubtype_type]; kernel_rfl) (by rw [isSubtype_type]; kernel_rfl) (nmB T₆ (by simp) Boot.«StopIteration» ⟨rfl, ⟨ob, hob, hobc⟩, ?_⟩)
    simp only [if_true]
    refine lands_againW hfl₆ fun h₇ hfl₇ hsm₇ => ?_
    have sm : h'.UpToSlots h₇ := ((hsm.trans hsm₅).trans hsm₆).trans hsm₇
    have F₇ns : h₇.Ns s.heap.objs.size m' := sm.ns F'.ns
    have hN₇ : h₇.IsList h₂.objs.size ws := by
      obtain ⟨sl, hsl⟩ := sm _ _ hoN (fun vs q => by cases q)
      exact ⟨_, hsl, rfl, nN, rfl⟩
    refine wpAny_execs_cons (wpAny_Return_some (nmL F₇ns hmn ?_))
    refine hok h₂.objs.size ws h₇ _ (by simpa using hws) hN₇ hgN (fun b o hb e => hfl₇.1 b o (hbase b o hb e)) ((Heap.UpToSlots.of_keeps F'.keep).trans sm)
end Mine
end

/-! ## MOps -/
section
open PySem PySem.W PyProof.Rows PySem.Calls
namespace Mine
section
variable {prog : Program} {w : World} {A : Around} {E : Value → Shared → Prop} {s : Shared}

theorem addL {l b : Addr} {its its2 : Array Value} {Q : Value → Shared → Prop} (hl : s.heap.IsList l its) (hb : s.heap.IsList b its2)
    (h : Q (.ref s.heap.objs.size) { s with heap := s.heap.push { cls := .type "list", data := .seq (its ++ its2) } }) (hsz : its.size + its2.size ≤ sizeLine) :
    wpAny (model prog w) A (binaryOp .Add (.ref l) (.ref b)) Q E s := by
  obtain ⟨⟨cls, dd, data, sl⟩, ho, hc, n, hd⟩ := id hl
  obtain ⟨⟨cls2, dd2, data2, sl2⟩, ho2, hc2, n2, hd2⟩ := id hb
  simp only at hc hd hc2 hd2
  subst hc hd hc2 hd2
  exact concat_meets ⟨_, ho, rfl⟩ ⟨_, ho2, rfl⟩ noFill_list_add seq_list_add PySem.F.slot_list_add PySem.F.entry_list_add (PySem.F.args_list_add_2 _ _) (list_addW l b its its2 n n2 dd dd2 sl sl2 hsz) ⟨ho, ho2, h⟩
end

theorem isList_push (h : Heap) (its : Array Value) : (h.push { cls := .type "list", data := .seq its }).IsList h.objs.size its := ⟨_, Heap.get?_push_size _ rfl, rfl, _, rfl⟩
theorem frLt {g : Heap} {L : Addr} {h : Heap} {m : Str → Option Value} (F : Fr g L h m) : @LT.lt Nat _ L h.objs.size := by
  obtain ⟨_, _, _, hL, _⟩ := F.ns
  exact Heap.lt_size hL
theorem frNe {g : Heap} {L : Addr} {h : Heap} {m : Str → Option Value} (F : Fr g L h m) : h.objs.size ≠ L := Nat.ne_of_gt (frLt F)
theorem frNew {g : Heap} {L : Addr} {h : Heap} {m : Str → Option Value} (F : Fr g L h m) : g.get? h.objs.size = none := by
  cases q : g.get? h.objs.size with
  | none => rfl
  | some o' => exact absurd (Heap.lt_size (F.keep _ _ q)) (Nat.lt_irrefl _)

section
variable {prog : Program} {w : World} {A : Around} {E : Value → Shared → Prop} {s : Shared} {g : Heap} {L : Addr} {m : Str → Option Value} {Q : Value → Shared → Prop}
theorem newL {vs : List Value} (F : Fr g L s.heap m)
    (h : ∀ N h', Fr g L h' m → h'.PlainList N vs.toArray → N ≠ L → g.get? N = none → s.heap.get? N = none → (∀ b o, s.heap.get? b = some o → h'.get? b = some o) → Q (.ref N) { s with heap := h' }) (hsz : vs.length ≤ sizeLine) :
    wpAny (model prog w) A (newList vs) Q E s :=
  wpAny_newList (h _ _ (F.push _) ⟨_, Heap.get?_push_size _ rfl⟩ (frNe F) (frNew F) (Heap.get?_none_of_le (Nat.le_refl _)) fun b o e => Heap.get?_push_of_some _ e) hsz
theorem addLF {l b : Addr} {its its2 : Array Value} (F : Fr g L s.heap m) (hl : s.heap.IsList l its) (hb : s.heap.IsList b its2)
    (h : ∀ N h', Fr g L h' m → h'.PlainList N (its ++ its2) → N ≠ L → g.get? N = none → s.heap.get? N = none → (∀ b o, s.heap.get? b = some o → h'.get? b = some o) → Q (.ref N) { s with heap := h' }) (hsz : its.size + its2.size ≤ sizeLine) :
    wpAny (model prog w) A (binaryOp .Add (.ref l) (.ref b)) Q E s :=
  addL hl hb (h _ _ (F.push _) ⟨_, Heap.get?_push_size _ rfl⟩ (frNe F) (frNew F) (Heap.get?_none_of_le (Nat.le_refl _)) fun b o e => Heap.get?_push_of_some _ e) hsz
end

/-- a call of a text's def of one argument; it hands back a value and keeps all that stood -/
theorem call1 {w : World} {A : Around} {E : Value → Shared → Prop} {Q : Value → Shared → Prop} {s : Shared} {mg mb : Str → Option Value} {n : Nat} {f : Addr} {x : Str} {v : Value}
    (hroom : A.depth < recursionLimit) (T : Facts mg mb s.heap) (hn : n ∈ [1, 4, 6, 7, 8, 9, 10]) (hf : mg (recAt n).name = some (.ref f))
    (hpar : ∀ pm cd doc, bindArgs (docDef (recAt n).name (recAt n).params (recAt n).body (recAt n).scope pm cd doc) ⟨[v], []⟩ = pure [(x, v)])
    (hloc : (recAt n).scope.names.lookup x = some .local)
    (h : ∀ h₁ cd, Fr s.heap s.heap.objs.size h₁ (fun y => [(x, v)].lookup y) →
      wpAny (model pg w) (A.deeper (envAt n s.heap.objs.size f cd)) (execs (recAt n).body (envAt n s.heap.objs.size f cd))
        (fun fl s' => Q (match fl with | .ret v => v | _ => .none) s') (fun _ _ => False)
        { s with heap := h₁, toks := s.toks + 1 })
    (hco : (recAt n).scope.isCoroutine = false := by rfl) (hgen : (recAt n).scope.isGenerator = false := by rfl) (hk : (recAt n).scope.kind = .function := by rfl)
    (hcell : ∀ x ∈ (recAt n).scope.names, x.2 ≠ .cell := by decide) :
    wpAny (model pg w) A (call (.ref f) [v]) Q E s := by
  obtain ⟨f', o, pm, code, doc, h1, h2, h3, h4⟩ := T.fn n hn
  rw [hf] at h1
  cases h1
  refine wpAny_call (call_plain (binds := [(x, v)]) hroom h2 h3 T.nolimit h4 (hpar _ _ _) (by intro y hy; obtain rfl := List.mem_singleton.mp hy; exact hloc) (fun h₁ F₁ => ?_) hco hgen hk hcell)
  exact wpAny_mono (h h₁ code F₁) (fun _ _ q => q) fun _ _ q => q.elim
end Mine
end

/-! ## MPlain2 -/
section
namespace Mine
def hi (n : Nat) : List Nat := if h : n < 64 then [n + 64] else hi (n / 64) ++ [n % 64 + 64]
termination_by n
decreasing_by omega
def octs (n : Nat) : List Nat := if n < 64 then [n] else hi (n / 64) ++ [n % 64]

theorem hi_small {n : Nat} (h : n < 64) : hi n = [n + 64] := by rw [hi]; simp [h]
theorem hi_big {n : Nat} (h : ¬ n < 64) : hi n = hi (n / 64) ++ [n % 64 + 64] := by rw [hi]; simp [h]
end Mine
end

/-! ## MOct -/
section
open PySem PySem.W PyProof.Rows PySem.Calls
namespace Mine

theorem fmod64 (n : Nat) : (n : Int).fmod 64 = ((n % 64 : Nat) : Int) := by
  rw [Int.fmod_eq_emod_of_nonneg _ (by decide)]; omega
theorem fdiv64 (n : Nat) : (n : Int).fdiv 64 = ((n / 64 : Nat) : Int) := by
  rw [Int.fdiv_eq_ediv_of_nonneg _ (by decide)]; omega
theorem ints_cons {vs : List Value} {ns : List Nat} {v : Nat} {t : Tok} (h : IntsAre vs (zs ns)) : IntsAre (.int (v : Int) t :: vs) (zs (v :: ns)) := .cons _ _ h

theorem oct_call {w : World} {A : Around} {E : Value → Shared → Prop} {Q : Value → Shared → Prop} {s : Shared} {mg mb : Str → Option Value} {f : Addr} {n : Nat} {t : Tok}
    (hroom : A.depth < recursionLimit) (T : Facts mg mb s.heap) (hf : mg (recAt 7).name = some (.ref f))
    (hn : n < 16777216)
    (hok : ∀ N ys h' tk, IntsAre ys.toList (zs (octs n)) → h'.IsList N ys → s.heap.get? N = none → (∀ b o, s.heap.get? b = some o → h'.get? b = some o) → Q (.ref N) { s with heap := h', toks := tk }) :
    wpAny (model pg w) A (call (.ref f) [.int (n : Int) t]) Q E s := by
  refine call1 (x := "number") hroom T (by simp) hf (fun _ _ _ => rfl) rfl fun h₁ cd F₁ => ?_
  refine wpAny_execs_cons (wpAny_Assign_Name (List_ (args_cons (wpAny_BinOp (nmL F₁.ns (v := .int (n : Int) t) rfl (wpAny_Constant_int (mod_int' (by decide) (args_nil (wpAny_newList ?_)))))))))
  rw [fmod64]
  refine stS (F₁.push _) fun h₂ F₂ hs₂ => ?_
  have hNL : h₁.objs.size ≠ s.heap.objs.size := frNe F₁
  refine wpAny_execs_cons (while_rule (fun k s' => ∃ h' tk m' tk' N ys ws, s' = { s with heap := h', toks := tk } ∧ Fr s.heap s.heap.objs.size h' m' ∧ m' "number" = some (.int ((k : Nat) : Int) tk') ∧ m' "octets" = some (.ref N) ∧
      h'.IsList N ys ∧ N ≠ s.heap.objs.size ∧ s.heap.get? N = none ∧ IntsAre ys.toList (zs ws) ∧ ws.length + k ≤ n + 1 ∧ (octs n = if k < 64 then ws else hi (k / 64) ++ ws)) ?_ n
      ⟨h₂, _, _, t, h₁.objs.size, _, [n % 64], rfl, F₂, rfl, rfl, (isList_push _ _).extBut hs₂.extBut hNL, hNL, frNew F₁, ?_, ?_, ?_⟩ PassesOwn.never)
  · rintro k s' ⟨h', tk, m', tk', N, ys, ws, rfl, F', hmn, hmo, hl, hNL, hgN, hI, hk, ho⟩
    refine wpAny_isTrue_Compare1 (nmL F'.ns hmn (wpAny_Constant_int (gt_int (wpAny_truthy_bool ?_))))
    by_cases hk64 : k < 64
    · have : decide ((k : Int) > 63) = false := by simp; omega
      simp only [this, Bool.false_eq_true, if_false]
      refine wpAny_execs_cons (wpAny_Return_some (nmL F'.ns hmo ?_))
      rw [if_pos hk64] at ho
      exact hok N ys h' _ (ho ▸ hI) hl hgN F'.keep
    · have : decide ((k : Int) > 63) = true := by simp; omega
      simp only [this, if_true]
      rw [if_neg hk64] at ho
      refine wpAny_execs_cons (wpAny_Assign_Name (wpAny_BinOp (nmL F'.ns hmn (wpAny_Constant_int (floordiv_int (by decide) ?_ (.inl (PyProof.noPylong_small (by decide))))))))
      rw [fdiv64]
      refine stS F' fun h₃ F₃ hs₃ => ?_
      have hl₃ : h₃.IsList N ys := hl.extBut hs₃.extBut hNL
      have hys : ys.size = ws.length := by
        have e := hI.length
        simpa using e
      refine wpAny_execs_cons (wpAny_Assign_Name (wpAny_BinOp (List_ (args_cons (wpAny_BinOp (wpAny_BinOp (nmL F₃.ns (v := .int ((k / 64 : Nat) : Int) _) rfl (wpAny_Constant_int (mod_int' (by decide) (wpAny_Constant_int (add_int (args_nil (newL F₃ (fun N₄ h₄ F₄ hl₄ hN₄ _ _ hk₄ => ?_) ?_)))))))))))))
      · refine nmL F₄.ns (v := .ref N) (by exact hmo) (addLF F₄ hl₄.isList (hl₃.at fun o e => hk₄ _ o e) (fun N₅ h₅ F₅ hl₅ hN₅ hgN₅ _ hk₅ => ?_) ?_)
        · refine stS F₅ fun h₆ F₆ hs₆ => wpAny_execs_nil ?_
          rw [fmod64] at hl₅
          refine ⟨k / 64, by omega, h₆, _, _, _, N₅, _, (k / 64 % 64 + 64) :: ws, rfl, F₆, rfl, rfl, hl₅.isList.extBut hs₆.extBut hN₅, hN₅, hgN₅, ?_, ?_, ?_⟩
          · simp
            exact .cons _ _ hI
          · simp; omega
          · rw [ho]
            by_cases hk2 : k / 64 < 64
            · rw [if_pos hk2, hi_small hk2, Nat.mod_eq_of_lt hk2]
              rfl
            · rw [if_neg hk2, hi_big hk2]
              simp
        · rw [sizeLine_eq, hys]
          simp
          omega
      · rw [sizeLine_eq]; simp
  · exact .cons _ _ .nil
  · simp; omega
  · by_cases h64 : n < 64
    · simp [octs, h64, Nat.mod_eq_of_lt h64]
    · simp [octs, h64]
end Mine
end

/-! ## MSplit -/
section
open PySem PySem.W PyProof.Rows
open Builtin Builtin.Str
namespace Mine

def ticksFrom : Nat → List Nat → List Nat
  | _, [] => []
  | k, c :: cs => if c = 39 then k :: ticksFrom (k + 1) cs else ticksFrom (k + 1) cs
def cut1 : List Nat → Option (List Nat × List Nat)
  | [] => none
  | c :: cs => if c = 39 then some ([], cs) else (cut1 cs).map fun p => (c :: p.1, p.2)

theorem cut1_none : ∀ {cs : List Nat}, cut1 cs = none ↔ 39 ∉ cs
  | [] => by simp [cut1]
  | c :: cs => by
    have ih := @cut1_none cs
    by_cases h : c = 39
    · simp [cut1, h]
    · simp [cut1, h, ih, Ne.symm h]
theorem cut1_some : ∀ {cs a r : List Nat}, cut1 cs = some (a, r) → cs = a ++ 39 :: r ∧ 39 ∉ a
  | [], _, _, h => by simp [cut1] at h
  | c :: cs, a, r, h => by
    by_cases hc : c = 39
    · simp [cut1, hc] at h
      obtain ⟨rfl, rfl⟩ := h
      simp [hc]
    · simp only [cut1, hc, if_false, Option.map_eq_some_iff] at h
      obtain ⟨⟨a', r'⟩, h1, h2⟩ := h
      cases h2
      obtain ⟨e1, e2⟩ := cut1_some h1
      refine ⟨by rw [e1]; rfl, ?_⟩
      simp [e2, Ne.symm hc]
theorem cut1_of : ∀ {a r : List Nat}, 39 ∉ a → cut1 (a ++ 39 :: r) = some (a, r)
  | [], r, _ => by simp [cut1]
  | c :: a, r, h => by
    have h1 : c ≠ 39 := fun e => h (by simp [e])
    have h2 : 39 ∉ a := fun e => h (by simp [e])
    simp [cut1, h1, cut1_of h2]
theorem ticks_none : ∀ {cs : List Nat} (k : Nat), cut1 cs = none → ticksFrom k cs = []
  | [], _, _ => rfl
  | c :: cs, k, h => by
    by_cases hc : c = 39
    · simp [cut1, hc] at h
    · simp only [cut1, hc, if_false, Option.map_eq_none_iff] at h
      simp [ticksFrom, hc, ticks_none (k + 1) h]
theorem ticks_some : ∀ {cs a r : List Nat} (k : Nat), cut1 cs = some (a, r) → ticksFrom k cs = (k + a.length) :: ticksFrom (k + a.length + 1) r
  | [], _, _, _, h => by simp [cut1] at h
  | c :: cs, a, r, k, h => by
    by_cases hc : c = 39
    · simp [cut1, hc] at h
      obtain ⟨rfl, rfl⟩ := h
      simp [ticksFrom, hc]
    · simp only [cut1, hc, if_false, Option.map_eq_some_iff] at h
      obtain ⟨⟨a', r'⟩, h1, h2⟩ := h
      cases h2
      have e := ticks_some (k + 1) h1
      simp only [ticksFrom, hc, if_false, e, List.length_cons]
      rw [show k + 1 + a'.length = k + (a'.length + 1) from by omega]

abbrev tickS : Str := ⟨#[39]⟩

theorem occ_run (x : Str) (limit : Nat) : ∀ (n k : Nat) (found : Array Nat) (free : Nat), free ≤ k → k + n = x.length + 1 →
    (forIn (List.range' k n) (found, free) (StrLaws.occBody x tickS x.length limit)).run.fst.toList = found.toList ++ (ticksFrom k (x.cps.toList.drop k)).take (limit - found.size)
  | 0, k, found, free, _, hn => by
    have : x.cps.toList.drop k = [] := List.drop_eq_nil_of_le (by
      have : x.cps.toList.length = x.length := by simp; rfl
      omega)
    rw [this]
    simp [ticksFrom]
  | n + 1, k, found, free, hf, hn => by
    rw [List.range'_succ, List.forIn_cons]
    have hone := StrLaws.subAt_one x 39 k
    have hlen : x.cps.toList.length = x.length := by simp; rfl
    have go := fun fd fr => occ_run x limit n (k + 1) fd fr
    by_cases hk : k < x.length
    · have hd : x.cps.toList.drop k = x.cps.toList[k]'(by omega) :: x.cps.toList.drop (k + 1) := List.drop_eq_getElem_cons (by omega)
      by_cases h39 : x.cps.toList[k]'(by omega) = 39
      · have hsub := hone.mpr (by rw [List.getElem?_eq_getElem (by omega), h39])
        by_cases hs : found.size < limit
        · have e : StrLaws.occBody x tickS x.length limit k (found, free) = pure (ForInStep.yield (found.push k, k + tickS.length)) := by
            unfold StrLaws.occBody
            rw [if_pos ⟨⟨⟨hs, hf⟩, hsub.1⟩, hsub.2⟩]
          rw [e, hd]
          have := go (found.push k) (k + tickS.length) (by show k + 1 ≤ k + 1; omega) (by omega)
          refine this.trans ?_
          simp only [ticksFrom, h39, if_true, Array.size_push, Array.toList_push, List.append_assoc]
          rw [show limit - found.size = (limit - (found.size + 1)) + 1 from by omega, List.take_succ_cons]
          rfl
        · have e : StrLaws.occBody x tickS x.length limit k (found, free) = pure (ForInStep.yield (found, free)) := by
            unfold StrLaws.occBody
            rw [if_neg (fun h => hs h.1.1.1)]
          rw [e, hd]
          have := go found free (by omega) (by omega)
          refine this.trans ?_
          rw [show limit - found.size = 0 from by omega]
          simp
      · have e : StrLaws.occBody x tickS x.length limit k (found, free) = pure (ForInStep.yield (found, free)) := by
          unfold StrLaws.occBody
          rw [if_neg (fun h => ?_)]
          have := hone.mp ⟨h.1.2, h.2⟩
          rw [List.getElem?_eq_getElem (by omega)] at this
          exact h39 (Option.some.inj this)
        rw [e, hd]
        have := go found free (by omega) (by omega)
        refine this.trans ?_
        simp only [ticksFrom, h39, if_false]
    · have e : StrLaws.occBody x tickS x.length limit k (found, free) = pure (ForInStep.yield (found, free)) := by
        unfold StrLaws.occBody
        rw [if_neg (fun h => ?_)]
        have := h.1.2
        have e1 : tickS.length = 1 := rfl
        omega
      rw [e]
      have := go found free (by omega) (by omega)
      refine this.trans ?_
      rw [List.drop_eq_nil_of_le (by omega), List.drop_eq_nil_of_le (by omega)]
      rfl

theorem occ_ticks (x : Str) (limit : Nat) : occurrences x tickS 0 x.length limit = (ticksFrom 0 x.cps.toList).take limit := by
  rw [StrLaws.occ_eq, occ_run x limit _ 0 #[] 0 (Nat.le_refl _) (by omega)]
  simp

def stOf (cs : List Nat) : Str := ⟨cs.toArray⟩
theorem str_eq {x : Str} {cs : List Nat} (h : x.cps.toList = cs) : x = stOf cs := by
  obtain ⟨a⟩ := x
  simp only at h
  subst h
  simp [stOf]

/-- what «split» by the tick, at most twice, tells -/
def split2 (cs : List Nat) : List (List Nat) := match cut1 cs with
  | none => [cs]
  | some (a, r) => match cut1 r with
    | none => [a, r]
    | some (b, c) => [a, b, c]

theorem splitMax_eq (x : Str) : Txt.splitMax x tickS 2 = (split2 x.cps.toList).map stOf := by
  have hx : x = stOf x.cps.toList := str_eq rfl
  have hlen : x.cps.toList.length = x.length := by simp; rfl
  have hk : (decide (Str.strKind x < Str.strKind tickS)) = false := by
    have e : Str.strKind tickS = 1 := by decide +kernel
    rw [e]
    unfold Str.strKind
    split
    · rfl
    · split <;> rfl
  unfold Txt.splitMax split2
  rw [hk, show limitOf x 2 = 2 from rfl, occ_ticks]
  cases h1 : cut1 x.cps.toList with
  | none =>
    rw [ticks_none 0 h1]
    simp
    exact hx
  | some p =>
    obtain ⟨a, r⟩ := p
    obtain ⟨e1, _⟩ := cut1_some h1
    have hl1 : ¬ x.length < tickS.length := by
      have : x.length = a.length + (r.length + 1) := by rw [← hlen, e1]; simp
      show ¬ x.length < 1
      omega
    have t1 := ticks_some 0 h1
    have hxl : x.length = a.length + (r.length + 1) := by rw [← hlen, e1]; simp
    cases h2 : cut1 r with
    | none =>
      rw [t1, ticks_none _ h2]
      simp only [h2, hl1, decide_false, Bool.or_false, Bool.false_eq_true, if_false]
      simp only [partsBetween, List.take, List.map, List.zip, List.zipWith, List.isEmpty, Bool.false_eq_true, if_false, List.cons_append, List.nil_append]
      refine congr (congrArg List.cons (str_eq ?_)) (congr (congrArg List.cons (str_eq ?_)) rfl)
      · rw [StrLaws.strSub_toList, e1]; simp
      · rw [StrLaws.strSub_toList, e1]
        show ((a ++ 39 :: r).drop (0 + a.length + 1)).take (x.length - (0 + a.length + 1)) = r
        rw [show a ++ 39 :: r = (a ++ [39]) ++ r from by simp, hxl, List.drop_left' (by simp)]
        exact List.take_of_length_le (by omega)
    | some q =>
      obtain ⟨b, c⟩ := q
      obtain ⟨e2, _⟩ := cut1_some h2
      have t2 := ticks_some (0 + a.length + 1) h2
      have hrl : r.length = b.length + (c.length + 1) := by rw [e2]; simp
      rw [t1, t2]
      simp only [h2, hl1, decide_false, Bool.or_false, Bool.false_eq_true, if_false]
      simp only [partsBetween, List.take, List.map, List.zip, List.zipWith, List.isEmpty, Bool.false_eq_true, if_false, List.cons_append, List.nil_append]
      refine congr (congrArg List.cons (str_eq ?_)) (congr (congrArg List.cons (str_eq ?_)) (congr (congrArg List.cons (str_eq ?_)) rfl))
      · rw [StrLaws.strSub_toList, e1]; simp
      · rw [StrLaws.strSub_toList, e1, e2]
        show ((a ++ 39 :: (b ++ 39 :: c)).drop (0 + a.length + 1)).take (0 + a.length + 1 + b.length - (0 + a.length + 1)) = b
        rw [show a ++ 39 :: (b ++ 39 :: c) = (a ++ [39]) ++ (b ++ 39 :: c) from by simp, List.drop_left' (by simp), show 0 + a.length + 1 + b.length - (0 + a.length + 1) = b.length from by omega]
        simp
      · rw [StrLaws.strSub_toList, e1, e2]
        show ((a ++ 39 :: (b ++ 39 :: c)).drop (0 + a.length + 1 + b.length + 1)).take (x.length - (0 + a.length + 1 + b.length + 1)) = c
        have : a ++ 39 :: (b ++ 39 :: c) = (a ++ 39 :: b ++ [39]) ++ c := by simp
        rw [this, hxl, hrl, List.drop_left' (by simp; omega)]
        exact List.take_of_length_le (by omega)
end Mine
end

/-! ## MDec -/
section
open PySem PySem.W PyProof.Rows PySem.Calls
namespace Mine

theorem tick_eq : ("'" : Str) = tickS := by decide +kernel

theorem dec_call {w : World} {A : Around} {E : Value → Shared → Prop} {Q : Value → Shared → Prop} {s : Shared} {mg mb : Str → Option Value} {f : Addr} {x : Str} {t : Tok}
    (hroom : A.depth < recursionLimit) (T : Facts mg mb s.heap) (hf : mg (recAt 4).name = some (.ref f)) (hlen : x.cps.size ≤ 1000000)
    (hok3 : ∀ N a b c t1 t2 t3 h' tk, split2 x.cps.toList = [a, b, c] → h'.PlainList N #[.str (stOf a) t1, .str (stOf b) t2, .str (stOf c) t3] → s.heap.get? N = none → (∀ b o, s.heap.get? b = some o → h'.get? b = some o) → Q (.ref N) { s with heap := h', toks := tk })
    (hok1 : ∀ N h' tk, (split2 x.cps.toList).length ≤ 2 → h'.IsTuple N #[.none, .none, .str x t] → s.heap.get? N = none → (∀ b o, s.heap.get? b = some o → h'.get? b = some o) → Q (.ref N) { s with heap := h', toks := tk }) :
    wpAny (model pg w) A (call (.ref f) [.str x t]) Q E s := by
  refine call1 (x := "s") hroom T (by simp) hf (fun _ _ _ => rfl) rfl fun h₁ cd F₁ => ?_
  obtain ⟨tt, htick⟩ := T.tick
  have T₁ := T.keeps F₁.keep
  refine wpAny_execs_cons (wpAny_Assign_Name (MethodCall_ (nmL F₁.ns (v := .str x t) rfl (GM.split ?_))))
  refine callWith_method1 (args_cons (nmG T₁ htick (args_cons (wpAny_Constant_int (args_nil ?_)))))
  have hlen2 : x.length = x.cps.size := rfl
  rw [tick_eq]
  refine splitN2A (news := []) F₁ News.nil rfl (by decide) (fun l h₂ tk₂ hl _ _ hlst F₂ N₂ => ?_) (by rw [sizeLine_eq]; omega)
  rw [splitMax_eq] at hl
  have hNL := frNe F₁
  have hN0 : s.heap.get? h₁.objs.size = none := frNew F₁
  have hpl : h₂.PlainList h₁.objs.size (strValues l).toArray := ⟨_, (N₂ _ (.head _)).1⟩
  refine stS F₂ fun h₃ F₃ hs₃ => ?_
  have hpl₃ : h₃.PlainList h₁.objs.size (strValues l).toArray := hpl.at fun o e => (hs₃.2 _ hNL).trans e
  have hll : l.length = (split2 x.cps.toList).length := by
    have := congrArg List.length hl
    simpa using this
  have h3 : (split2 x.cps.toList).length ≤ 3 := by
    unfold split2
    split
    · simp
    · split <;> simp
  have hsz : (strValues l).toArray.size = l.length := by simp [strValues]
  refine wpAny_execs_cons (wpAny_If (wpAny_isTrue_Compare1 (Call_ ?_)))
  refine nmB (T.keeps F₃.keep) (by simp) Boot.«len» (PyProof.Rows.callWith_builtin1 (args_cons (nmL F₃.ns (v := .ref h₁.objs.size) rfl (args_nil ?_))))
  refine Calls.call_len_list hpl₃.isList (by rw [hsz]; omega) (wpAny_Constant_int (le_int (wpAny_truthy_bool ?_)))
  rw [hsz]
  by_cases h2 : (split2 x.cps.toList).length ≤ 2
  · have : decide (((l.length : Nat) : Int) ≤ 2) = true := by simp; omega
    simp only [this, if_true]
    refine wpAny_execs_cons (wpAny_Return_some (Tuple_ (args_cons (Constant_none (args_cons (Constant_none (args_cons (nmL F₃.ns (v := .str x t) rfl (args_nil ?_)))))))))
    refine newTuple_N (news := []) F₃ News.nil (fun h₄ F₄ N₄ => ?_) (by rw [sizeLine_eq]; simp)
    exact hok1 _ h₄ _ h2 ⟨_, (N₄ _ (.head _)).1, rfl, _, rfl⟩ (frNew F₃) F₄.keep
  · have : decide (((l.length : Nat) : Int) ≤ 2) = false := by simp; omega
    simp only [this, Bool.false_eq_true, if_false]
    refine wpAny_execs_nil ?_
    refine wpAny_execs_cons (wpAny_Return_some (nmL F₃.ns (v := .ref h₁.objs.size) rfl ?_))
    have hl3 : l.length = 3 := by omega
    match l, hl3 with
    | [p1, p2, p3], _ =>
      match hsp : split2 x.cps.toList, h3, h2 with
      | [a, b, c], _, _ =>
        rw [hsp] at hl
        simp only [List.map_cons, List.map_nil, List.cons.injEq, and_true] at hl
        obtain ⟨e1, e2, e3⟩ := hl
        refine hok3 _ a b c p1.2 p2.2 p3.2 h₃ _ hsp ?_ hN0 F₃.keep
        simpa [strValues, e1, e2, e3] using hpl₃
      | [], _, hh => simp at hh
      | [_], _, hh => simp at hh
      | [_, _], _, hh => simp at hh
      | _ :: _ :: _ :: _ :: _, hh, _ => simp at hh
end Mine
end

/-! ## MTold -/
section
open PySem PySem.W PyProof.Rows
namespace Mine

inductive Ans where
  | cut (a b c : List Nat)
  | fin (c : List Nat)

def told (cs : List Nat) : List Ans :=
  match h1 : cut1 cs with
  | none => [.fin cs]
  | some (a, r) => match h2 : cut1 r with
    | none => [.fin cs]
    | some (b, c) => .cut a b c :: told c
termination_by cs.length
decreasing_by
  have e1 := (cut1_some h1).1
  have e2 := (cut1_some h2).1
  rw [e1, e2]
  simp
  omega

theorem told_cut {cs a b c : List Nat} (h : split2 cs = [a, b, c]) : told cs = .cut a b c :: told c := by
  unfold split2 at h
  rw [told]
  split
  · rename_i h1; rw [h1] at h; simp at h
  · rename_i a' r h1
    rw [h1] at h
    simp only at h
    split
    · rename_i h2; rw [h2] at h; simp at h
    · rename_i b' c' h2
      rw [h2] at h
      simp only [List.cons.injEq, and_true] at h
      obtain ⟨rfl, rfl, rfl⟩ := h
      rfl
theorem told_fin {cs : List Nat} (h : (split2 cs).length ≤ 2) : told cs = [.fin cs] := by
  unfold split2 at h
  rw [told]
  split
  · rfl
  · rename_i a' r h1
    rw [h1] at h
    simp only at h
    split
    · rfl
    · rename_i b' c' h2
      rw [h2] at h
      simp at h
theorem split2_sub {cs a b c : List Nat} (h : split2 cs = [a, b, c]) : cs = a ++ 39 :: (b ++ 39 :: c) := by
  unfold split2 at h
  split at h
  · simp at h
  · rename_i a' r h1
    split at h
    · simp at h
    · rename_i b' c' h2
      simp only [List.cons.injEq, and_true] at h
      obtain ⟨rfl, rfl, rfl⟩ := h
      rw [(cut1_some h1).1, (cut1_some h2).1]
end Mine
end

/-! ## MCut -/
section
open PySem PySem.W PyProof.Rows PySem.Calls
namespace Mine

def AnsAt (h : Heap) (bad : List Addr) (v : Value) : Ans → Prop
  | .cut a b c => ∃ X t1 t2 t3, v = .ref X ∧ X ∉ bad ∧ h.IsList X #[.str (stOf a) t1, .str (stOf b) t2, .str (stOf c) t3]
  | .fin c => ∃ X t, v = .ref X ∧ X ∉ bad ∧ h.IsTuple X #[.none, .none, .str (stOf c) t]

theorem AnsAt.keep {h h' : Heap} {bad bad' : List Addr} {v : Value} : ∀ {a : Ans}, (∀ b o, b ∉ bad → h.get? b = some o → h'.get? b = some o) → (∀ b o, b ∉ bad → h.get? b = some o → b ∉ bad') → AnsAt h bad v a → AnsAt h' bad' v a
  | .cut _ _ _, hk, hb, ⟨X, t1, t2, t3, hv, hX, o, ho, r⟩ => ⟨X, t1, t2, t3, hv, hb X o hX ho, o, hk X o hX ho, r⟩
  | .fin _, hk, hb, ⟨X, t, hv, hX, o, ho, r⟩ => ⟨X, t, hv, hb X o hX ho, o, hk X o hX ho, r⟩

theorem paired_mono {α β : Type} {F F' : α → β → Prop} : ∀ {l₁ : List α} {l₂ : List β}, (∀ a b, F a b → F' a b) → Paired F l₁ l₂ → Paired F' l₁ l₂
  | _, _, _, .nil => .nil
  | _, _, h, .cons x t => .cons (h _ _ x) (paired_mono h t)

theorem paired_last {α β : Type} {F : α → β → Prop} {x : β} : ∀ {l : List α} {d : List β}, Paired F l (d ++ [x]) → ∃ l' v, l = l' ++ [v] ∧ Paired F l' d ∧ F v x
  | _, [], .cons h .nil => ⟨[], _, rfl, .nil, h⟩
  | _, _ :: _, .cons h t =>
    let ⟨l', v, e, p, q⟩ := paired_last t
    ⟨_ :: l', v, by rw [e]; rfl, .cons h p, q⟩

section
variable {prog : Program} {w : World} {A : Around} {E : Value → Shared → Prop} {s : Shared}
theorem item_lastR {value slice : Expr} {l : Addr} {items : Array Value} {u : Tok} {x : Value} {Q : Value → Shared → Prop} (hl : s.heap.IsList l items)
    (h1 : 1 ≤ items.size) (hx : items[items.size - 1]? = some x) (h : Q x s)
    (hs : subscripted slice false (.ref l) (.int (-1) u) = operate [.ref l, .int (-1) u] (getItem (.ref l) (.int (-1) u)) := by with_unfolding_all rfl) :
    wpAny (model prog w) A (subscriptTail value slice (.ref l) (.int (-1) u)) Q E s :=
  subscriptTail_builtinR hl.typeIs slot_list_getitem.lookup (wpAny_getItem_list_neg (Q := fun r s' => r = x ∧ Q r s') hl (by decide) (by omega) (by decide)
    (by rw [show ((-1 : Int) + items.size).toNat = items.size - 1 from by omega]; exact hx) ⟨rfl, h⟩) hs
end

def Nx (n : Nat) : Ans → List Ans → Prop
  | .cut _ _ c, rest => rest = told c ∧ c.length ≤ n
  | .fin _, rest => rest = []

theorem dec_ans {w : World} {A : Around} {E : Value → Shared → Prop} {Q : Value → Shared → Prop} {s : Shared} {mg mb : Str → Option Value} {f : Addr} {x : Str} {t : Tok}
    (hroom : A.depth < recursionLimit) (T : Facts mg mb s.heap) (hf : mg (recAt 4).name = some (.ref f)) (hlen : x.cps.size ≤ 1000000)
    (hok : ∀ N a0 rest h' tk, told x.cps.toList = a0 :: rest → Nx 1000000 a0 rest → AnsAt h' [] (.ref N) a0 → s.heap.get? N = none → (∀ b o, s.heap.get? b = some o → h'.get? b = some o) → Q (.ref N) { s with heap := h', toks := tk }) :
    wpAny (model pg w) A (call (.ref f) [.str x t]) Q E s := by
  refine dec_call hroom T hf hlen (fun N a b c t1 t2 t3 h' tk hsp hl hN hk => ?_) (fun N h' tk hsp hl hN hk => ?_)
  · refine hok N _ _ h' tk (told_cut hsp) ⟨rfl, ?_⟩ ⟨N, t1, t2, t3, rfl, List.not_mem_nil, hl.isList⟩ hN hk
    have e := congrArg List.length (split2_sub hsp)
    simp at e
    omega
  · refine hok N _ _ h' tk (told_fin hsp) rfl ⟨N, t, rfl, List.not_mem_nil, ?_⟩ hN hk
    rw [← str_eq rfl]
    exact hl

set_option maxHeartbeats 4000000 in
theorem cut_call {w : World} {A : Around} {E : Value → Shared → Prop} {Q : Value → Shared → Prop} {s : Shared} {mg mb : Str → Option Value} {f : Addr} {x : Str} {t : Tok}
    (hroom : A.depth + 1 < recursionLimit) (T : Facts mg mb s.heap) (hf : mg (recAt 9).name = some (.ref f)) (hlen : x.cps.size ≤ 1000000) (hfew : (told x.cps.toList).length ≤ 19)
    (hok : ∀ N items h' tk, h'.PlainList N items → Paired (AnsAt h' []) items.toList (told x.cps.toList) → (∀ b o, s.heap.get? b = some o → h'.get? b = some o) → Q (.ref N) { s with heap := h', toks := tk }) :
    wpAny (model pg w) A (call (.ref f) [.str x t]) Q E s := by
  refine call1 (x := "text") (by omega) T (by simp) hf (fun _ _ _ => rfl) rfl fun h₁ cd F₁ => ?_
  obtain ⟨fd, od, _, _, _, d1, d2, d3, _⟩ := T.fn 4 (by simp)
  have T₁ := T.keeps F₁.keep
  refine wpAny_execs_cons (wpAny_Assign_Name (List_ (args_cons (Call_ ?_))))
  refine nmG T₁ d1 (callWith_def d3 (args_cons (nmL F₁.ns (v := .str x t) rfl (args_nil ⟨F₁.keep _ _ d2, ?_⟩))))
  refine dec_ans (by show A.depth + 1 < _; omega) T₁ d1 hlen fun X a0 rest0 h₂ tk₂ ht0 hnx hans hX hk₂ => ?_
  have F₂ : Fr s.heap s.heap.objs.size h₂ _ := ⟨F₁.ns.keeps hk₂, fun b o e => hk₂ b o (F₁.keep b o e), F₁.above⟩
  refine args_nil (newL F₂ (fun N h₃ F₃ hl₃ hNL hgN hN2 hk₃ => ?_) (by rw [sizeLine_eq]; simp))
  refine stS F₃ fun h₄ F₄ hs₄ => ?_
  have hLX : ∀ b o, b ∉ ([] : List Addr) → h₂.get? b = some o → b ∉ [N] := fun b o _ e q => by
    rw [List.mem_singleton.mp q, hN2] at e; cases e
  refine wpAny_execs_cons (while_rule (fun n s' => ∃ h' tk m' items done last rest, s' = { s with heap := h', toks := tk } ∧ n = rest.length ∧ Fr s.heap s.heap.objs.size h' m' ∧ m' "answers" = some (.ref N) ∧
      h'.PlainList N items ∧ Paired (AnsAt h' [N, s.heap.objs.size]) items.toList (done ++ [last]) ∧ told x.cps.toList = (done ++ [last]) ++ rest ∧ Nx 1000000 last rest) ?_ rest0.length
      ⟨h₄, _, _, _, [], a0, rest0, rfl, rfl, F₄, rfl, hl₃.at fun o e => (hs₄.2 _ hNL).trans e, ?_, ht0, hnx⟩ PassesOwn.never)
  · rintro _ s' ⟨h', tk, m', items, done, last, rest, rfl, rfl, F', hm, hl, hp, htold, hnx⟩
    have hsz : items.size = done.length + 1 := by
      have e := hp.length
      simpa using e
    have hle : done.length + 1 + rest.length ≤ 19 := by
      have e := congrArg List.length htold
      simp at e
      omega
    obtain ⟨l', vl, hli, hp', hvl⟩ := paired_last hp
    have hlast : items[items.size - 1]? = some vl := by
      have e : items.toList[items.size - 1]? = some vl := by
        have : items.size = l'.length + 1 := by
          have := congrArg List.length hli
          simpa using this
        rw [hli, this]
        simp
      simpa using e
    refine isTrue_and ?_
    refine isTrue_plain ?_
    refine Call_ ?_
    refine nmB (T.keeps F'.keep) (by simp) Boot.«isinstance» ?_
    refine PyProof.Rows.callWith_builtin1 ?_
    refine args_cons ?_
    refine Subscript_ ?_
    refine nmL F'.ns hm ?_
    refine UnaryOp_ (wpAny_Constant_int ?_)
    refine neg_int ?_
    refine item_lastR hl.isList (by omega) hlast (args_cons (nmB (T.keeps F'.keep) (by simp) Boot.«list» (args_nil ?_)))
    cases last with
    | fin c =>
      obtain ⟨X', t', rfl, hX', o', ho', hc', _⟩ := hvl
      refine IsiPair.tuple_list ho' hc' (wpAny_truthy_bool ?_)
      simp only [Bool.false_eq_true, if_false]
      refine wpAny_execs_cons (wpAny_Return_some (nmL F'.ns hm ?_))
      have hr : rest = [] := hnx
      subst hr
      rw [List.append_nil] at htold
      exact hok N items h' _ hl (htold ▸ paired_mono (fun v a q => q.keep (fun b o _ e => e) (fun b o _ _ => List.not_mem_nil)) hp) F'.keep
    | cut a b c =>
      obtain ⟨X', t1, t2, t3, rfl, hX', hlX⟩ := hvl
      obtain ⟨hr, hclen⟩ := hnx
      obtain ⟨o', ho', hc', _⟩ := id hlX
      refine IsiPair.list_list ho' hc' (wpAny_truthy_bool ?_)
      simp only [if_true]
      refine isTrue_and (wpAny_isTrue_Compare1 (Call_ ?_))
      refine nmB (T.keeps F'.keep) (by simp) Boot.«len» (PyProof.Rows.callWith_builtin1 (args_cons (nmL F'.ns hm (args_nil ?_))))
      refine Calls.call_len_list hl.isList (by omega) (wpAny_Constant_int (lt_int (wpAny_truthy_bool ?_)))
      have hdec : decide ((items.size : Int) < 20) = true := by simp; omega
      simp only [hdec, if_true]
      refine isTrue_and_nil ?_
      simp only [if_true]
      obtain ⟨nN, hoN⟩ := id hl
      refine wpAny_execs_cons (wpAny_Expr_any (MethodCall_ (nmL F'.ns hm (Calls.getMethod_list_append hoN rfl rfl ?_))))
      refine callWith_method1 (args_cons (Call_ ?_))
      refine nmG (T.keeps F'.keep) d1 (callWith_def d3 (args_cons (Subscript_ (Subscript_ (nmL F'.ns hm (UnaryOp_ (wpAny_Constant_int (neg_int ?_))))))))
      refine item_lastR hl.isList (by omega) hlast (wpAny_Constant_int (item_listR (x := .str (stOf c) t3) hlX (by decide) (by decide) rfl (args_nil ⟨F'.keep _ _ d2, ?_⟩)))
      refine dec_ans (by show A.depth + 1 < _; omega) (T.keeps F'.keep) d1 (by simpa [stOf] using hclen) fun X₅ a5 rest5 h₅ tk₅ ht5 hnx5 hans5 hX5 hk₅ => ?_
      have F₅ : Fr s.heap s.heap.objs.size h₅ m' := ⟨F'.ns.keeps hk₅, fun b o e => hk₅ b o (F'.keep b o e), F'.above⟩
      refine args_nil (wpAny_list_append_plain (hsz := by rw [sizeLine_eq]; omega) (hl.at fun o e => hk₅ _ o e) fun h₆ hl₆ hs₆ => wpAny_execs_nil ?_)
      have hrest : rest = a5 :: rest5 := by rw [hr, ← ht5]; simp [stOf]
      refine ⟨rest5.length, by rw [hrest]; simp, h₆, _, m', _, done ++ [.cut a b c], a5, rest5, rfl, rfl, frSame F₅ hs₆ hgN hNL, hm, hl₆, ?_, ?_, hnx5⟩
      · have p1 : Paired (AnsAt h₆ [N, s.heap.objs.size]) items.toList (done ++ [.cut a b c]) := paired_mono (fun v a q => q.keep (fun b o hb e => by
          have hbN : b ≠ N := fun q => hb (by simp [q])
          exact (hs₆.2 b hbN).trans (hk₅ b o e)) (fun b o hb _ => hb)) hp
        have q5 : AnsAt h₆ [N, s.heap.objs.size] (.ref X₅) a5 := by
          have hXN : X₅ ≠ N := fun q => by rw [q, hoN] at hX5; cases hX5
          have hXL : X₅ ≠ s.heap.objs.size := fun q => by
            obtain ⟨_, _, _, hL, _⟩ := F'.ns
            rw [q, hL] at hX5; cases hX5
          have hbad : X₅ ∉ [N, s.heap.objs.size] := by simp [hXN, hXL]
          cases a5 with
          | cut a' b' c' =>
            obtain ⟨Y, u1, u2, u3, hY, _, hlY⟩ := hans5
            cases hY
            exact ⟨X₅, u1, u2, u3, rfl, hbad, hlY.extBut hs₆.extBut hXN⟩
          | fin c' =>
            obtain ⟨Y, u, hY, _, hlY⟩ := hans5
            cases hY
            exact ⟨X₅, u, rfl, hbad, hlY.extBut hs₆.extBut hXN⟩
        simpa using Paired.snoc p1 q5
      · rw [htold, hrest]; simp
  · have hXN : X ≠ N := fun q => by
      cases a0 with
      | cut a' b' c' =>
        obtain ⟨Y, u1, u2, u3, hY, _, o, ho, _⟩ := hans
        cases hY
        rw [q, hN2] at ho; cases ho
      | fin c' =>
        obtain ⟨Y, u, hY, _, o, ho, _⟩ := hans
        cases hY
        rw [q, hN2] at ho; cases ho
    have hXL : X ≠ s.heap.objs.size := fun q => by
      obtain ⟨_, _, _, hL, _⟩ := F₁.ns
      rw [q, hL] at hX; cases hX
    have hbad : X ∉ [N, s.heap.objs.size] := by simp [hXN, hXL]
    refine .cons ?_ .nil
    cases a0 with
    | cut a' b' c' =>
      obtain ⟨Y, u1, u2, u3, hY, _, hlY⟩ := hans
      cases hY
      exact ⟨X, u1, u2, u3, rfl, hbad, (hlY.at fun o e => hk₃ _ o e).extBut hs₄.extBut hXL⟩
    | fin c' =>
      obtain ⟨Y, u, hY, _, o, ho, r⟩ := hans
      cases hY
      exact ⟨X, u, rfl, hbad, o, hs₄.extBut _ _ hXL (hk₃ _ _ ho), r⟩
end Mine
end

/-! ## MComp -/
section
open PySem PySem.W PyProof.Rows PySem.Calls
namespace Mine

theorem list_of_at {vs : List Value} {items : Array Value} (hl : vs.length = items.size) (hP : ∀ (j : Nat) (v : Value), vs[j]? = some v → items[j]? = some v) : vs = items.toList := by
  apply List.ext_getElem?
  intro j
  by_cases hj : j < vs.length
  · rw [List.getElem?_eq_getElem hj]
    have := hP j _ (List.getElem?_eq_getElem hj)
    simpa using this.symm
  · rw [List.getElem?_eq_none (by omega), List.getElem?_eq_none (by simp; omega)]

section
variable {prog : Program} {w : World} {A : Around} {E : Value → Shared → Prop} {s : Shared} {env : Env}

/-- a comprehension over a list -/
theorem comp_list {elt iter : Expr} {x : Str} {px : Pos} {ifs : List Expr} {scope : Scope} {cl : List (Str × Addr)} {pos : Pos} {l : Addr} {items : Array Value} {Q : Value → Shared → Prop} (p : Value → Bool) (F : Value → Value → Prop)
    (hh : A.handled = none) (hclos : closureFor scope env = pure cl) (hcell : ∀ y ∈ scope.names, y.2 ≠ .cell) (hkind : scope.kind = .function)
    (hnames : ∀ y ∈ scope.names, y.2 = .local → scope.names.lookup y.1 = some .local) (hx : scope.names.lookup x = some .local)
    (hit : ∀ Q', Q' (.ref l) s → wpAny (model prog w) A (eval iter env) Q' E s)
    (hl : s.heap.IsList l items) (hsz : items.size ≤ sizeLine)
    (htests : ∀ C v s₃ m₃ E', v ∈ items.toList → s₃.heap.Ns C m₃ → m₃ x = some v → (∀ b o, s.heap.get? b = some o → s₃.heap.get? b = some o) →
      wpAny (model prog w) A (forIn ifs true fun c r => if r = true then do let ok ← isTrue c (compEnvC scope cl C env) (eval c (compEnvC scope cl C env)); pure (ForInStep.yield ok) else pure (ForInStep.yield r))
        (fun ok s₄ => ok = p v ∧ Keeps s₃ s₄) E' s₃)
    (helt : ∀ C v s₃ m₃ E', v ∈ items.toList → p v = true → s₃.heap.Ns C m₃ → m₃ x = some v → (∀ b o, s.heap.get? b = some o → s₃.heap.get? b = some o) →
      wpAny (model prog w) A (eval elt (compEnvC scope cl C env)) (fun y s₄ => F v y ∧ Keeps s₃ s₄) E' s₃)
    (hok : ∀ D h' tk ys, s.heap.get? D = none → h'.PlainList D ys → Paired F (items.toList.filter p) ys.toList → (∀ b o, s.heap.get? b = some o → h'.get? b = some o) → Q (.ref D) { s with heap := h', toks := tk })
    (hs : ∀ x, foldedSetIterable iter env x = pure x := by intro _; rfl) :
    wpAny (model prog w) A (eval (.ListComp elt [⟨.Name x px, iter, ifs, 0⟩] scope pos) env) Q E s := by
  refine wpAny_ListComp_free p F hclos hcell hkind hnames hx (hit _ (wpAny_pyIter_list hl ?_)) hs
  have hIs : ∀ b o, s.heap.get? b = some o → b ∉ [s.heap.objs.size] := fun b o e q => by
    obtain rfl := List.mem_singleton.mp q
    exact absurd (Heap.lt_size e) (Nat.lt_irrefl _)
  obtain ⟨ol, hol, _⟩ := id hl
  have hlt : l < s.heap.objs.size := Heap.lt_size hol
  have up : ∀ {s₃ : Shared}, (∀ b o, b ∉ [s.heap.objs.size] → (s.heap.push { cls := .type "list_iterator", data := .fields #[.ref l, .int 0 0] }).get? b = some o → s₃.heap.get? b = some o) → ∀ b o, s.heap.get? b = some o → s₃.heap.get? b = some o :=
    fun hk b o e => hk b o (hIs b o e) (Heap.get?_push_of_some _ e)
  refine ⟨_, [s.heap.objs.size, l], [s.heap.objs.size], items.size, _, _, rfl, Walks.list hh _ l (Nat.ne_of_lt hlt) items, hsz, ⟨⟨_, Heap.get?_push_size _ rfl, rfl, rfl⟩, hl.push _⟩, ?_, ⟨?_, ?_⟩, ?_⟩
  · intro b hb
    rw [Heap.size_push]
    rcases List.mem_cons.mp hb with rfl | hb
    · exact Nat.lt_succ_self _
    · obtain rfl := List.mem_singleton.mp hb
      exact Nat.lt_succ_of_lt hlt
  · intro C i v s₃ m₃ E' _ hP hn hm hk _
    exact htests C v s₃ m₃ E' (List.mem_of_getElem? (by simpa using hP)) hn hm (up hk)
  · intro C i v s₃ m₃ E' _ hP hp hn hm hk _
    exact helt C v s₃ m₃ E' (List.mem_of_getElem? (by simpa using hP)) hp hn hm (up hk)
  · intro D h' tk ys vs hD _ hpl hlen hP hpair hk
    have hvs : vs = items.toList := list_of_at hlen hP
    subst hvs
    refine hok D h' tk ys ?_ hpl hpair (fun b o e => hk b o (hIs b o e) (Heap.get?_push_of_some _ e))
    cases q : s.heap.get? D with
    | none => rfl
    | some o => rw [Heap.get?_push_of_some _ q] at hD; cases hD

theorem rsize1 (n : Nat) : Builtin.Range.rangeSize 0 (n : Int) 1 = (n : Int) := by
  unfold Builtin.Range.rangeSize
  simp only [show (1 : Int) > 0 from by decide, if_true]
  split <;> omega
theorem rsmall1 (n : Nat) (h : n ≤ 1000000) : Builtin.Range.small 0 (n : Int) 1 = true := by
  unfold Builtin.Range.small
  rw [rsize1]
  unfold Builtin.Range.rangeFitsLong
  simp only [show (1 : Int) > 0 from by decide, if_true]
  simp only [Bool.and_eq_true, decide_eq_true_eq, Bool.or_eq_true]
  refine ⟨⟨⟨⟨⟨?_, ?_⟩, ?_, ?_⟩, ?_, ?_⟩, ?_, ?_⟩, .inr ⟨?_, ?_⟩⟩ <;> omega

theorem ints_range : ∀ {vs : List Value} {n k : Nat}, vs.length = n → (∀ (j : Nat) (v : Value), vs[j]? = some v → ∃ t, v = .int ((k + j : Nat) : Int) t) → IntsAre vs (zs (List.range' k n))
  | [], _, _, rfl, _ => .nil
  | v :: vs, _, k, rfl, h => by
    obtain ⟨t, rfl⟩ := h 0 v rfl
    rw [List.length_cons, List.range'_succ]
    exact .cons _ _ (ints_range rfl fun j v hv => by
      obtain ⟨t, rfl⟩ := h (j + 1) v (by simpa using hv)
      exact ⟨t, by rw [show k + (j + 1) = k + 1 + j from by omega]⟩)

/-- a comprehension over range(n) -/
theorem comp_range {elt iter : Expr} {x : Str} {px : Pos} {ifs : List Expr} {scope : Scope} {cl : List (Str × Addr)} {pos : Pos} {n : Nat} {Q : Value → Shared → Prop} (p : Value → Bool) (F : Value → Value → Prop)
    (hh : A.handled = none) (hclos : closureFor scope env = pure cl) (hcell : ∀ y ∈ scope.names, y.2 ≠ .cell) (hkind : scope.kind = .function)
    (hnames : ∀ y ∈ scope.names, y.2 = .local → scope.names.lookup y.1 = some .local) (hx : scope.names.lookup x = some .local) (hn : n ≤ 1000000)
    (hit : ∀ Q', (∀ r h₁ tk₁ t u v, IsRange h₁ r 0 (n : Int) 1 t u v → (∀ b o, s.heap.get? b = some o → h₁.get? b = some o) → Q' (.ref r) { s with heap := h₁, toks := tk₁ }) → wpAny (model prog w) A (eval iter env) Q' E s)
    (htests : ∀ C k t s₃ m₃ E', k < n → s₃.heap.Ns C m₃ → m₃ x = some (.int ((k : Nat) : Int) t) → (∀ b o, s.heap.get? b = some o → s₃.heap.get? b = some o) →
      wpAny (model prog w) A (forIn ifs true fun c r => if r = true then do let ok ← isTrue c (compEnvC scope cl C env) (eval c (compEnvC scope cl C env)); pure (ForInStep.yield ok) else pure (ForInStep.yield r))
        (fun ok s₄ => ok = p (.int ((k : Nat) : Int) t) ∧ Keeps s₃ s₄) E' s₃)
    (helt : ∀ C k t s₃ m₃ E', k < n → p (.int ((k : Nat) : Int) t) = true → s₃.heap.Ns C m₃ → m₃ x = some (.int ((k : Nat) : Int) t) → (∀ b o, s.heap.get? b = some o → s₃.heap.get? b = some o) →
      wpAny (model prog w) A (eval elt (compEnvC scope cl C env)) (fun y s₄ => F (.int ((k : Nat) : Int) t) y ∧ Keeps s₃ s₄) E' s₃)
    (hok : ∀ D h' tk ys vs, IntsAre vs (zs (List.range' 0 n)) → s.heap.get? D = none → h'.PlainList D ys → Paired F (vs.filter p) ys.toList → (∀ b o, s.heap.get? b = some o → h'.get? b = some o) → Q (.ref D) { s with heap := h', toks := tk })
    (hs : ∀ x, foldedSetIterable iter env x = pure x := by intro _; rfl) :
    wpAny (model prog w) A (eval (.ListComp elt [⟨.Name x px, iter, ifs, 0⟩] scope pos) env) Q E s := by
  refine wpAny_ListComp_free p F hclos hcell hkind hnames hx (hit _ fun r h₁ tk₁ t u v hr hk₁ => ?_) hs
  refine wpAny_pyIter_range hr (rsmall1 n hn) ?_
  have hIs : ∀ b o, h₁.get? b = some o → b ∉ [h₁.objs.size] := fun b o e q => by
    obtain rfl := List.mem_singleton.mp q
    exact absurd (Heap.lt_size e) (Nat.lt_irrefl _)
  have up : ∀ {s₃ : Shared} {oo : Obj}, (∀ b o, b ∉ [h₁.objs.size] → (h₁.push oo).get? b = some o → s₃.heap.get? b = some o) → ∀ b o, s.heap.get? b = some o → s₃.heap.get? b = some o :=
    fun hk b o e => hk b o (hIs b o (hk₁ b o e)) (Heap.get?_push_of_some _ (hk₁ b o e))
  have W : Walks prog w A h₁.objs.size [h₁.objs.size] [h₁.objs.size] n (fun i v => i < n ∧ ∃ t, v = .int (0 + i * 1) t) (fun i h => IsRangeIter h h₁.objs.size (0 + (i : Nat) * 1) ((n : Int) - (i : Nat)) 1) := (Walks.range hh _ 0 1 n).bound
  refine ⟨_, [h₁.objs.size], [h₁.objs.size], n, _, _, rfl, W, by rw [sizeLine_eq]; omega, ?_, ?_, ⟨?_, ?_⟩, ?_⟩
  · show IsRangeIter _ _ _ _ _
    rw [rsize1]
    simpa using Heap.get?_push_size _ rfl
  · intro b hb
    obtain rfl := List.mem_singleton.mp hb
    rw [Heap.size_push]
    exact Nat.lt_succ_self _
  · intro C i v s₃ m₃ E' _ hP hn' hm hk _
    obtain ⟨hi, t, rfl⟩ := hP
    simp only [Int.zero_add, Int.mul_one] at hm ⊢
    exact htests C i t s₃ m₃ E' hi hn' hm (up hk)
  · intro C i v s₃ m₃ E' _ hP hp hn' hm hk _
    obtain ⟨hi, t, rfl⟩ := hP
    simp only [Int.zero_add, Int.mul_one] at hm hp ⊢
    exact helt C i t s₃ m₃ E' hi hp hn' hm (up hk)
  · intro D h' tk ys vs hD _ hpl hlen hP hpair hk
    refine hok D h' tk ys vs (ints_range hlen fun j v hv => ?_) ?_ hpl hpair (fun b o e => hk b o (hIs b o (hk₁ b o e)) (Heap.get?_push_of_some _ (hk₁ b o e)))
    · obtain ⟨_, t, rfl⟩ := hP j v hv
      exact ⟨t, by simp⟩
    · cases q : s.heap.get? D with
      | none => rfl
      | some o => rw [Heap.get?_push_of_some _ (hk₁ _ _ q)] at hD; cases hD
end
end Mine
end

/-! ## MDue -/
section
open PySem PySem.W PyProof.Rows PySem.Calls
namespace Mine

theorem int_inj {a b : Nat} {t u : Tok} (h : Value.int (a : Int) t = Value.int (b : Int) u) : a = b := by
  injection h with h1 _
  exact Int.ofNat.inj h1

theorem strs_of_chars : ∀ {vs ys : List Value} {cs : List Nat}, IntsAre vs (zs cs) → Paired (fun v y => ∃ c t u, v = Value.int ((c : Nat) : Int) t ∧ y = Value.str (stOf [c]) u) vs ys → StrsAre ys (cs.map fun c => stOf [c])
  | _, _, [], h, p => by cases h; cases p; exact .nil
  | _, _, c :: cs, .cons _ _ h, .cons ⟨c', t, u, e1, e2⟩ p => by
    have hc := int_inj e1
    subst hc e2
    exact .cons _ _ (strs_of_chars h p)

theorem join_chars (cs : List Nat) : Txt.join ("" : Str) (cs.map fun c => stOf [c]) = stOf cs := by
  show Builtin.Str.glued _ _ = _
  rw [StrLaws.glued_eq_join]
  induction cs with
  | nil => rfl
  | cons c cs ih =>
    cases cs with
    | nil => rfl
    | cons d ds =>
      simp only [List.map_cons] at ih ⊢
      rw [Str.join]
      · rw [ih]
        apply str_eq
        simp [Str.cps_append, stOf]
        rfl
      · intro h; cases h

theorem chars_len (l : List Nat) : ((l.map fun c => stOf [c]).map (·.length)).sum = l.length := by
  induction l with
  | nil => rfl
  | cons a l ih => simp only [List.map_cons, List.sum_cons, ih, List.length_cons]; show 1 + _ = _; omega

section
variable {w : World} {A : Around} {E : Value → Shared → Prop} {s : Shared} {env : Env} {mg mb : Str → Option Value}
theorem comp_chr {iter : Expr} {x : Str} {px p1 p2 p3 : Pos} {scope : Scope} {cl : List (Str × Addr)} {pos : Pos} {l : Addr} {items : Array Value} {cs : List Nat} {Q : Value → Shared → Prop}
    (hh : A.handled = none) (T : Facts mg mb s.heap) (hclos : closureFor scope env = pure cl) (hcell : ∀ y ∈ scope.names, y.2 ≠ .cell) (hkind : scope.kind = .function)
    (hnames : ∀ y ∈ scope.names, y.2 = .local → scope.names.lookup y.1 = some .local) (hx : scope.names.lookup x = some .local)
    (hit : ∀ Q', Q' (.ref l) s → wpAny (model pg w) A (eval iter env) Q' E s)
    (hl : s.heap.IsList l items) (hI : IntsAre items.toList (zs cs)) (hc : ∀ c ∈ cs, c < 128) (hsz : cs.length ≤ 1000000)
    (hok : ∀ D ys h' tk, h'.PlainList D ys → StrsAre ys.toList (cs.map fun c => stOf [c]) → (∀ b o, s.heap.get? b = some o → h'.get? b = some o) → Q (.ref D) { s with heap := h', toks := tk })
    (hg : env.globals = mainGlobals := by rfl) (hb : env.builtins = builtinsNs := by rfl)
    (h1 : ∀ C, (compEnvC scope cl C env).kindOf "chr" = some .globalImplicit := by intro _; rfl) (h2 : ∀ C, (compEnvC scope cl C env).kindOf x = some .local := by intro _; rfl) (hxd : (x == ("__debug__" : Str)) = false := by decide)
    (hs : ∀ x, foldedSetIterable iter env x = pure x := by intro _; rfl) :
    wpAny (model pg w) A (eval (.ListComp (.Call (.Name "chr" p1) [.Name x p2] [] p3) [⟨.Name x px, iter, [], 0⟩] scope pos) env) Q E s := by
  have hsz' : items.size = cs.length := by
    have e := hI.length
    simpa using e
  refine comp_list (fun _ => true) (fun v y => ∃ c t u, v = Value.int ((c : Nat) : Int) t ∧ y = Value.str (stOf [c]) u) hh hclos hcell hkind hnames hx hit hl (by rw [sizeLine_eq]; omega) ?_ ?_ ?_ hs
  · intro C v s₃ m₃ E' _ _ _ _
    exact wpAny_tests_nil ⟨rfl, Keeps.refl _⟩
  · intro C v s₃ m₃ E' hv _ hn hm hk
    obtain ⟨i, hi, rfl⟩ := List.getElem_of_mem hv
    have hlt : i < cs.length := by
      rw [← hsz']
      simpa using hi
    obtain ⟨t, ht⟩ := (ints_at hI i).1 _ (List.getElem?_eq_getElem hlt)
    rw [List.getElem?_eq_getElem hi] at ht
    have hv' := Option.some.inj ht
    rw [hv'] at hm ⊢
    have hc' := hc _ (List.getElem_mem hlt)
    refine Call_ (nmB (T.keeps hk) (by simp) Boot.«chr» (PyProof.Rows.callWith_builtin1 (args_cons (nmL hn hm (args_nil (chr_of_range (by omega) (by omega) ?_)) (by exact hkind) (h2 C) hxd))) (by decide) (by exact hkind) (h1 C) (by exact hg) (by exact hb))
    exact ⟨⟨_, t, _, rfl, rfl⟩, Keeps.of fun _ _ e => e⟩
  · intro D h' tk ys hD hpl hpair hk
    rw [filter_tt] at hpair
    exact hok D ys h' tk hpl (strs_of_chars hI hpair) hk
theorem join_chr {D : Addr} {ys : Array Value} {cs : List Nat} {t : Tok} {Q : Value → Shared → Prop} (hl : s.heap.IsList D ys) (hst : StrsAre ys.toList (cs.map fun c => stOf [c])) (hsz : cs.length ≤ 1000000)
    (hok : ∀ t' k, Q (.str (stOf cs) t') { s with toks := k }) : wpAny (model pg w) A (call (.builtin "str.join") [.str ("" : Str) t, .ref D]) Q E s := by
  refine join_list hl hst ?_ fun t' k => ?_
  · rw [chars_len]
    show cs.length + _ * 0 ≤ _
    omega
  · rw [join_chars]
    exact hok t' k
end
end Mine
end

/-! ## MSl -/
section
open PySem PySem.W PyProof.Rows PySem.Calls
namespace Mine

section
variable {prog : Program} {w : World} {A : Around} {E : Value → Shared → Prop} {s : Shared} {value slice : Expr} {x : Str} {t : Tok} {Q : Value → Shared → Prop}
theorem sl_ss {i j : Int} {ui uj : Tok} (h : ∀ h' t' k, (∀ b o, s.heap.get? b = some o → h'.get? b = some o) → Q (.str (Txt.slice x (some i) (some j)) t') { s with heap := h', toks := k })
    (hsz : x.length ≤ sizeLine)
    (hs : subscripted slice false (.str x t) (.ref s.heap.objs.size) = operate [.ref s.heap.objs.size, .str x t] (getItem (.str x t) (.ref s.heap.objs.size)) := by with_unfolding_all rfl)
    (ht : ∀ r, letTemporaryGo value (.str x t) r = pure () := by intro _; with_unfolding_all rfl) :
    wpAny (model prog w) A (subscriptTail value slice (.str x t) (.ref s.heap.objs.size)) Q E { s with heap := s.heap.push { cls := .type "slice", data := .fields #[.int i ui, .int j uj, .none] } } :=
  tail_of_ItemOn (SBH.sliceItem_ss (P := fun h' => ∀ b o, s.heap.get? b = some o → h'.get? b = some o) (fun h o hp b o' e => Heap.get?_push_of_some _ (hp b o' e)) (fun _ _ e => e) h hsz) hs ht
theorem sl_sn {i : Int} {ui : Tok} (h : ∀ h' t' k, (∀ b o, s.heap.get? b = some o → h'.get? b = some o) → Q (.str (Txt.slice x (some i) none) t') { s with heap := h', toks := k })
    (hsz : x.length ≤ sizeLine)
    (hs : subscripted slice false (.str x t) (.ref s.heap.objs.size) = operate [.ref s.heap.objs.size, .str x t] (getItem (.str x t) (.ref s.heap.objs.size)) := by with_unfolding_all rfl)
    (ht : ∀ r, letTemporaryGo value (.str x t) r = pure () := by intro _; with_unfolding_all rfl) :
    wpAny (model prog w) A (subscriptTail value slice (.str x t) (.ref s.heap.objs.size)) Q E { s with heap := s.heap.push { cls := .type "slice", data := .fields #[.int i ui, .none, .none] } } :=
  tail_of_ItemOn (SBH.sliceItem_sn (P := fun h' => ∀ b o, s.heap.get? b = some o → h'.get? b = some o) (fun h o hp b o' e => Heap.get?_push_of_some _ (hp b o' e)) (fun _ _ e => e) h hsz) hs ht

theorem slSS {env : Env} {lo up : Expr} {p : Pos} (h : wpAny (model prog w) A (eval lo env) (fun l s₁ => wpAny (model prog w) A (eval up env) (fun u s₂ =>
      Q (.ref s₂.heap.objs.size) { s₂ with heap := s₂.heap.push { cls := .type "slice", data := .fields #[l, u, .none] } }) E s₁) E s) :
    wpAny (model prog w) A (eval (.Slice (some lo) (some up) none p) env) Q E s := by
  refine wpAny_Slice ?_
  rw [evalPart_some]
  refine wpAny_mono h (fun l s₁ h₁ => ?_) fun _ _ e => e
  rw [evalPart_some]
  refine wpAny_mono h₁ (fun u s₂ h₂ => ?_) fun _ _ e => e
  rw [evalPart_none]
  exact wpAny_pure h₂
theorem slSN {env : Env} {lo : Expr} {p : Pos} (h : wpAny (model prog w) A (eval lo env) (fun l s₁ =>
      Q (.ref s₁.heap.objs.size) { s₁ with heap := s₁.heap.push { cls := .type "slice", data := .fields #[l, .none, .none] } }) E s) :
    wpAny (model prog w) A (eval (.Slice (some lo) none none p) env) Q E s := by
  refine wpAny_Slice ?_
  rw [evalPart_some]
  refine wpAny_mono h (fun l s₁ h₁ => ?_) fun _ _ e => e
  rw [evalPart_none]
  refine wpAny_pure ?_
  exact wpAny_pure h₁
theorem slNS {env : Env} {up : Expr} {p : Pos} (h : wpAny (model prog w) A (eval up env) (fun u s₁ =>
      Q (.ref s₁.heap.objs.size) { s₁ with heap := s₁.heap.push { cls := .type "slice", data := .fields #[.none, u, .none] } }) E s) :
    wpAny (model prog w) A (eval (.Slice none (some up) none p) env) Q E s := by
  refine wpAny_Slice ?_
  rw [evalPart_none]
  refine wpAny_pure ?_
  rw [evalPart_some]
  refine wpAny_mono h (fun l s₁ h₁ => ?_) fun _ _ e => e
  exact wpAny_pure h₁

theorem item_intsR {l : Addr} {items : Array Value} {ns : List Int} {k v : Int} {u : Tok} (hl : s.heap.IsList l items) (hI : IntsAre items.toList ns)
    (h0 : 0 ≤ k) (hfit : k < 2 ^ 63) (hx : ns[k.toNat]? = some v) (h : ∀ t, Q (.int v t) s)
    (hs : subscripted slice false (.ref l) (.int k u) = operate [.ref l, .int k u] (getItem (.ref l) (.int k u)) := by with_unfolding_all rfl) :
    wpAny (model prog w) A (subscriptTail value slice (.ref l) (.int k u)) Q E s := by
  obtain ⟨t, ht⟩ := hI.get k.toNat _ hx
  exact item_listR hl h0 hfit (by simpa using ht) (h t) hs
end

section
variable {prog : Program} {w : World} {A : Around} {E : Value → Shared → Prop} {s : Shared} {env : Env} {x : Str} {t : Tok} {Q : Value → Shared → Prop} {m : Str → Option Value}
/-- a text's cut, its ends by what their trees come to -/
theorem el_ss {nm : Str} {lo up : Expr} {p1 p2 p3 : Pos} {a b : Int} (hn : s.heap.Ns env.locals m) (hm : m nm = some (.str x t))
    (hlo : ∀ (Q' : Value → Shared → Prop) tk, (∀ u tk', Q' (.int a u) { s with toks := tk' }) → wpAny (model prog w) A (eval lo env) Q' E { s with toks := tk })
    (hup : ∀ (Q' : Value → Shared → Prop) tk, (∀ u tk', Q' (.int b u) { s with toks := tk' }) → wpAny (model prog w) A (eval up env) Q' E { s with toks := tk })
    (hsz : x.length ≤ sizeLine)
    (h : ∀ h' t' k, (∀ b o, s.heap.get? b = some o → h'.get? b = some o) → Q (.str (Txt.slice x (some a) (some b)) t') { s with heap := h', toks := k })
    (hk : env.scope.kind = .function := by rfl) (hl : env.kindOf nm = some .local := by rfl) (hd : (nm == ("__debug__" : Str)) = false := by decide) :
    wpAny (model prog w) A (eval (.Subscript (.Name nm p1) (.Slice (some lo) (some up) none p2) p3) env) Q E s := by
  refine Subscript_ (nmL hn hm (slSS (hlo _ s.toks fun u tk => hup _ tk fun u' tk' => ?_)) hk hl hd)
  exact sl_ss (s := { s with toks := tk' }) h hsz
theorem el_sn {nm : Str} {lo : Expr} {p1 p2 p3 : Pos} {a : Int} (hn : s.heap.Ns env.locals m) (hm : m nm = some (.str x t))
    (hlo : ∀ (Q' : Value → Shared → Prop) tk, (∀ u tk', Q' (.int a u) { s with toks := tk' }) → wpAny (model prog w) A (eval lo env) Q' E { s with toks := tk })
    (hsz : x.length ≤ sizeLine)
    (h : ∀ h' t' k, (∀ b o, s.heap.get? b = some o → h'.get? b = some o) → Q (.str (Txt.slice x (some a) none) t') { s with heap := h', toks := k })
    (hk : env.scope.kind = .function := by rfl) (hl : env.kindOf nm = some .local := by rfl) (hd : (nm == ("__debug__" : Str)) = false := by decide) :
    wpAny (model prog w) A (eval (.Subscript (.Name nm p1) (.Slice (some lo) none none p2) p3) env) Q E s := by
  refine Subscript_ (nmL hn hm (slSN (hlo _ s.toks fun u tk => ?_)) hk hl hd)
  exact sl_sn (s := { s with toks := tk }) h hsz
/-- an item of a list of ints, its place by what its tree comes to -/
theorem el_at {nm : Str} {ix : Expr} {p1 p2 : Pos} {k v : Int} {l : Addr} {items : Array Value} {ns : List Int} (hn : s.heap.Ns env.locals m) (hm : m nm = some (.ref l))
    (hl : s.heap.IsList l items) (hI : IntsAre items.toList ns)
    (hix : ∀ (Q' : Value → Shared → Prop) tk, (∀ u tk', Q' (.int k u) { s with toks := tk' }) → wpAny (model prog w) A (eval ix env) Q' E { s with toks := tk })
    (h0 : 0 ≤ k) (hfit : k < 2 ^ 63) (hx : ns[k.toNat]? = some v)
    (hs : ∀ u, subscripted ix false (.ref l) (.int k u) = operate [.ref l, .int k u] (getItem (.ref l) (.int k u)) := by intro _; with_unfolding_all rfl)
    (hk : env.scope.kind = .function := by rfl) (hlo : env.kindOf nm = some .local := by rfl) (hd : (nm == ("__debug__" : Str)) = false := by decide) :
    ∀ (Q' : Value → Shared → Prop) tk, (∀ u tk', Q' (.int v u) { s with toks := tk' }) → wpAny (model prog w) A (eval (.Subscript (.Name nm p1) ix p2) env) Q' E { s with toks := tk } := by
  intro Q' tk hq
  refine Subscript_ (nmL (s := { s with toks := tk }) hn hm (hix _ tk fun u tk' => ?_) hk hlo hd)
  exact item_intsR (s := { s with toks := tk' }) hl hI h0 hfit hx (fun t => hq t tk') (hs u)
theorem el_add {e : Expr} {k : Nat} {p1 p2 : Pos} {a c : Int}
    (he : ∀ (Q' : Value → Shared → Prop) tk, (∀ u tk', Q' (.int a u) { s with toks := tk' }) → wpAny (model prog w) A (eval e env) Q' E { s with toks := tk }) :
    ∀ (Q' : Value → Shared → Prop) tk, (∀ u tk', Q' (.int (a + c) u) { s with toks := tk' }) → wpAny (model prog w) A (eval (.BinOp e .Add (.Constant (.int c) k p1) p2) env) Q' E { s with toks := tk } := by
  intro Q' tk hq
  exact wpAny_BinOp (he _ tk fun u tk' => wpAny_Constant_int (add_int (hq _ _)))
theorem el_nm {nm : Str} {p1 : Pos} {a : Int} {t : Tok} (hn : s.heap.Ns env.locals m) (hm : m nm = some (.int a t))
    (hk : env.scope.kind = .function := by rfl) (hlo : env.kindOf nm = some .local := by rfl) (hd : (nm == ("__debug__" : Str)) = false := by decide) :
    ∀ (Q' : Value → Shared → Prop) tk, (∀ u tk', Q' (.int a u) { s with toks := tk' }) → wpAny (model prog w) A (eval (.Name nm p1) env) Q' E { s with toks := tk } := by
  intro Q' tk hq
  exact nmL (s := { s with toks := tk }) hn hm (hq t tk) hk hlo hd
end

theorem stOf_len (cs : List Nat) : (stOf cs).length = cs.length := by show (cs.toArray).size = _; simp
theorem stOf_list (cs : List Nat) : (stOf cs).cps.toList = cs := by simp [stOf]

theorem slice_ss_eq (cs : List Nat) (i j : Nat) (h1 : i ≤ j) (h2 : j ≤ cs.length) : Txt.slice (stOf cs) (some (i : Int)) (some (j : Int)) = stOf ((cs.drop i).take (j - i)) := by
  have e := eq_of_beq (slice_closesL (x := stOf cs) (i := i) (j := j) (by omega) (by omega) (by rw [stOf_len]; omega))
  rw [e, stOf_list]
  have : ((j : Int) - (i : Int)).toNat = j - i := by omega
  rw [this]
  rfl
theorem slice_sn_eq (cs : List Nat) (i : Nat) (h1 : i ≤ cs.length) : Txt.slice (stOf cs) (some (i : Int)) none = stOf (cs.drop i) := by
  have e := eq_of_beq (slice_closes_fromL (x := stOf cs) (i := i) (b := cs.length) (by omega) (by rw [stOf_len]; omega) (by rw [stOf_len]))
  rw [e, stOf_list]
  have : ((cs.length : Int) - (i : Int)).toNat = cs.length - i := by omega
  rw [this, Int.toNat_natCast, List.take_of_length_le (by simp)]
  rfl

theorem slice_ss_eq' (cs : List Nat) {a b : Int} (i j : Nat) (ha : a = i) (hb : b = j) (h1 : i ≤ j) (h2 : j ≤ cs.length) : Txt.slice (stOf cs) (some a) (some b) = stOf ((cs.drop i).take (j - i)) := by
  subst ha hb; exact slice_ss_eq cs i j h1 h2
theorem slice_sn_eq' (cs : List Nat) {a : Int} (i : Nat) (ha : a = i) (h1 : i ≤ cs.length) : Txt.slice (stOf cs) (some a) none = stOf (cs.drop i) := by
  subst ha; exact slice_sn_eq cs i h1

theorem rsize2 (n : Nat) : Builtin.Range.rangeSize 0 ((n : Int) + 1 - 2) 2 = ((n / 2 : Nat) : Int) := by
  unfold Builtin.Range.rangeSize
  simp only [show (2 : Int) > 0 from by decide, if_true]
  split <;> omega
theorem rsmall2 (n : Nat) (h : n ≤ 1000000) : Builtin.Range.small 0 ((n : Int) + 1 - 2) 2 = true := by
  unfold Builtin.Range.small
  rw [rsize2]
  unfold Builtin.Range.rangeFitsLong
  simp only [show (2 : Int) > 0 from by decide, if_true]
  simp only [Bool.and_eq_true, decide_eq_true_eq, Bool.or_eq_true]
  refine ⟨⟨⟨⟨⟨?_, ?_⟩, ?_, ?_⟩, ?_, ?_⟩, ?_, ?_⟩, .inr ⟨?_, ?_⟩⟩ <;> omega

theorem ticks_filter : ∀ (cs : List Nat) (k : Nat), ticksFrom k cs = (List.range' k cs.length).filter fun j => cs[j - k]? == some 39
  | [], k => rfl
  | c :: cs, k => by
    rw [List.length_cons, List.range'_succ, List.filter_cons]
    have e : (List.range' (k + 1) cs.length).filter (fun j => (c :: cs)[j - k]? == some 39) = (List.range' (k + 1) cs.length).filter fun j => cs[j - (k + 1)]? == some 39 := by
      apply List.filter_congr
      intro j hj
      have := (List.mem_range'_1.mp hj).1
      rw [show j - k = (j - (k + 1)) + 1 from by omega]
      rfl
    rw [e, ← ticks_filter cs (k + 1)]
    simp only [Nat.sub_self, List.getElem?_cons_zero]
    by_cases hc : c = 39 <;> simp [ticksFrom, hc]
theorem ticks_lt : ∀ (cs : List Nat) (k : Nat), ∀ j ∈ ticksFrom k cs, j < k + cs.length
  | [], _, j, h => by simp [ticksFrom] at h
  | c :: cs, k, j, h => by
    simp only [ticksFrom] at h
    split at h
    · rcases List.mem_cons.mp h with rfl | h
      · simp
      · have := ticks_lt cs (k + 1) j h
        simp; omega
    · have := ticks_lt cs (k + 1) j h
      simp; omega
theorem ticks_len (cs : List Nat) (k : Nat) : (ticksFrom k cs).length ≤ cs.length := by
  rw [ticks_filter]
  exact Nat.le_trans (List.length_filter_le _ _) (by simp)
end Mine
end

/-! ## MDueL -/
section
open PySem PySem.W PyProof.Rows PySem.Calls
namespace Mine

abbrev envC (n : Nat) (L a : Addr) (cd : Value) : Env := envOfC (recAt n).name (recAt n).scope L a cd

theorem ticks_two {cs : List Nat} {off p q : Nat} {rest : List Nat} (h : ticksFrom off cs = p :: q :: rest) :
    ∃ a b c, split2 cs = [a, b, c] ∧ p = off + a.length ∧ q = off + a.length + 1 + b.length ∧ rest = ticksFrom (q + 1) c := by
  cases h1 : cut1 cs with
  | none => rw [ticks_none off h1] at h; cases h
  | some pr =>
    obtain ⟨a, r⟩ := pr
    rw [ticks_some off h1] at h
    injection h with e1 e2
    cases h2 : cut1 r with
    | none => rw [ticks_none _ h2] at e2; cases e2
    | some pr2 =>
      obtain ⟨b, c⟩ := pr2
      rw [ticks_some _ h2] at e2
      injection e2 with e3 e4
      refine ⟨a, b, c, ?_, e1.symm, e3.symm, ?_⟩
      · simp [split2, h1, h2]
      · rw [← e4, ← e3]
theorem ticks_few {cs : List Nat} {off : Nat} (h : (ticksFrom off cs).length ≤ 1) : (split2 cs).length ≤ 2 := by
  unfold split2
  cases h1 : cut1 cs with
  | none => simp
  | some pr =>
    obtain ⟨a, r⟩ := pr
    cases h2 : cut1 r with
    | none => simp [h2]
    | some pr2 =>
      rw [ticks_some off h1, ticks_some _ h2] at h
      simp at h

section
variable {prog : Program} {w : World} {A : Around} {E : Value → Shared → Prop} {s : Shared} {g : Heap} {L : Addr} {m : Str → Option Value} {Q : Value → Shared → Prop}
theorem newTupF {vs : List Value} (F : Fr g L s.heap m)
    (h : ∀ N h', Fr g L h' m → h'.IsTuple N vs.toArray → N ≠ L → g.get? N = none → s.heap.get? N = none → (∀ b o, s.heap.get? b = some o → h'.get? b = some o) → Q (.ref N) { s with heap := h' }) (hsz : vs.length ≤ sizeLine) :
    wpAny (model prog w) A (newTuple vs) Q E s :=
  wpAny_newTuple (h _ _ (F.push _) ⟨_, Heap.get?_push_size _ rfl, rfl, _, rfl⟩ (frNe F) (frNew F) (Heap.get?_none_of_le (Nat.le_refl _)) fun b o e => Heap.get?_push_of_some _ e) hsz
theorem range3F {a b c : Int} {t u v : Tok} (F : Fr g L s.heap m) (hc : c ≠ 0) (hc2 : c.natAbs < 1073741824)
    (h : ∀ R h', Fr g L h' m → IsRange h' R a b c t u v → (∀ b o, s.heap.get? b = some o → h'.get? b = some o) → Q (.ref R) { s with heap := h' }) :
    wpAny (model prog w) A (call (.type "range") [.int a t, .int b u, .int c v]) Q E s :=
  call_range_3 hc (h _ _ (F.push _) (Heap.get?_push_size _ rfl) fun _ _ e => Heap.get?_push_of_some _ e) (.inl (PyProof.noPylong_small hc2))
theorem iterRangeF {r : Addr} {a b c n : Int} {t u v : Tok} (F : Fr g L s.heap m) (hr : IsRange s.heap r a b c t u v) (hsm : Builtin.Range.small a b c = true) (hn : Builtin.Range.rangeSize a b c = n)
    (h : ∀ RI h', Fr g L h' m → IsRangeIter h' RI a n c → RI ≠ L → g.get? RI = none → s.heap.get? RI = none → (∀ b o, s.heap.get? b = some o → h'.get? b = some o) → Q (.ref RI) { s with heap := h' }) :
    wpAny (model prog w) A (pyIter (.ref r)) Q E s := by
  subst hn
  exact wpAny_pyIter_range hr hsm (h _ _ (F.push _) (Heap.get?_push_size _ rfl) (frNe F) (frNew F) (Heap.get?_none_of_le (Nat.le_refl _)) fun _ _ e => Heap.get?_push_of_some _ e)
end

set_option maxHeartbeats 4000000 in
theorem due_rest {w : World} {A : Around} {E : Value → Shared → Prop} {Q : Flow → Shared → Prop} {s : Shared} {mg mb : Str → Option Value} {g : Heap} {L a : Addr} {cd : Value} {m : Str → Option Value} {SP : Addr} {spv : Array Value} {cs : List Nat} {t : Tok}
    (hh : A.handled = none) (T : Facts mg mb g) (F : Fr g L s.heap m) (hmt : m "text" = some (.str (stOf cs) t)) (hms : m "spots" = some (.ref SP))
    (hlS : s.heap.IsList SP spv) (hSL : SP ≠ L) (hIS : IntsAre spv.toList ((-1) :: zs (ticksFrom 0 cs))) (hsz : cs.length ≤ 1000000)
    (hE : PassesOwn (model pg w) A (envC 10 L a cd) E)
    (hok : ∀ N ys h' tk m', Fr g L h' m' → h'.PlainList N ys → Paired (AnsAt h' []) ys.toList (told cs) → Q (.ret (.ref N)) { s with heap := h', toks := tk }) :
    wpAny (model pg w) A (execs ((recAt 10).body.drop 2) (envC 10 L a cd)) Q E s := by
  have htl := ticks_len cs 0
  have hspz : spv.size = (ticksFrom 0 cs).length + 1 := by
    have e := hIS.length
    simpa using e
  generalize hS : ticksFrom 0 cs = S at *
  refine wpAny_execs_cons (wpAny_Assign_Name (List_ (args_nil (newL F (fun N h₁ F₁ hl₁ hNL hgN hN0 hk₁ => ?_) (by rw [sizeLine_eq]; simp)))))
  refine stS F₁ fun h₂ F₂ hs₂ => ?_
  obtain ⟨oS, hoS, _⟩ := id hlS
  have hSN : SP ≠ N := fun q => by rw [q, hN0] at hoS; cases hoS
  have hlS₂ : h₂.IsList SP spv := (hlS.at fun o e => hk₁ _ o e).extBut hs₂.extBut hSL
  have hlN₂ : h₂.PlainList N #[] := hl₁.at fun o e => (hs₂.2 _ hNL).trans e
  refine wpAny_execs_cons (wpAny_For (Call_ ?_))
  refine nmB (T.keeps F₂.keep) (by simp) Boot.«range» (PyProof.Rows.callWith_type1 (args_cons (wpAny_Constant_int (args_cons (wpAny_BinOp (Call_ ?_))))))
  refine nmB (T.keeps F₂.keep) (by simp) Boot.«len» (PyProof.Rows.callWith_builtin1 (args_cons (nmL F₂.ns (v := .ref SP) (by exact hms) (args_nil ?_))))
  refine Calls.call_len_list hlS₂ (by rw [hspz]; omega) (wpAny_Constant_int (sub_int (args_cons (wpAny_Constant_int (args_nil ?_)))))
  rw [show ((spv.size : Int) - 2) = (S.length : Int) + 1 - 2 from by omega]
  refine range3F F₂ (by decide) (by decide) fun R h₃ F₃ hR hk₃ => ?_
  refine iterRangeF F₃ hR (rsmall2 _ (by omega)) (rsize2 _) fun RI h₄ F₄ hRI hRL hgR hR3 hk₄ => ?_
  have hlS₄ : h₄.IsList SP spv := hlS₂.at fun o e => hk₄ _ o (hk₃ _ o e)
  have hlN₄ : h₄.PlainList N #[] := hlN₂.at fun o e => hk₄ _ o (hk₃ _ o e)
  obtain ⟨nN, hoN2⟩ := id hlN₂
  obtain ⟨oS2, hoS2, _⟩ := id hlS₂
  have hRN : RI ≠ N := fun q => by rw [q, hk₃ _ _ hoN2] at hR3; cases hR3
  have hRS : RI ≠ SP := fun q => by rw [q, hk₃ _ _ hoS2] at hR3; cases hR3
  have W := Walks.range (prog := pg) (w := w) (A := A) hh RI 0 2 (S.length / 2)
  refine codeAny_forLoop (fun k s' => ∃ h' tk m' i off done items, s' = { s with heap := h', toks := tk } ∧ k = S.length / 2 + 1 - i ∧ i ≤ S.length / 2 ∧
      IsRangeIter h' RI (0 + (i : Nat) * 2) (((S.length / 2 : Nat) : Int) - (i : Nat)) 2 ∧ Fr g L h' m' ∧ m' "text" = some (.str (stOf cs) t) ∧ m' "spots" = some (.ref SP) ∧ m' "answers" = some (.ref N) ∧
      h'.IsList SP spv ∧ h'.PlainList N items ∧ Paired (AnsAt h' [N, L, RI]) items.toList done ∧ told cs = done ++ told (cs.drop off) ∧ S.drop (2 * i) = ticksFrom off (cs.drop off) ∧
      off ≤ cs.length ∧ ((-1) :: zs S)[2 * i]? = some ((off : Int) - 1) ∧ items.size ≤ i) ?_ (S.length / 2 + 1)
      ⟨h₄, _, _, 0, 0, [], #[], rfl, rfl, Nat.zero_le _, (by simpa using hRI), F₄, (by exact hmt), (by exact hms), rfl, hlS₄, hlN₄, .nil, (by simp), (by simpa using hS.symm), Nat.zero_le _, rfl, Nat.le_refl _⟩
  rintro _ s' ⟨h', tk, m', i, off, done, items, rfl, rfl, hi, hst, F', hmt', hms', hma', hlS', hlN', hp, htold, hdrop, hoff, hspot, hisz⟩
  by_cases hlt : i < S.length / 2
  · have hSd : ∃ p q rest, S.drop (2 * i) = p :: q :: rest := by
      have hl : 2 ≤ (S.drop (2 * i)).length := by simp; omega
      match hd : S.drop (2 * i), hl with
      | p :: q :: rest, _ => exact ⟨p, q, rest, rfl⟩
      | [_], hl => simp at hl
      | [], hl => simp at hl
    obtain ⟨p, q, rest, hSd⟩ := hSd
    rw [hSd] at hdrop
    obtain ⟨x1, x2, x3, hsp, hp1, hq1, hrest⟩ := ticks_two hdrop.symm
    have hcd := split2_sub hsp
    have hlen : cs.length - off = x1.length + (1 + (x2.length + (1 + x3.length))) := by
      have e := congrArg List.length hcd
      simp at e
      omega
    have hS0 : S[2 * i]? = some p := by
      have e : (S.drop (2 * i))[0]? = some p := by rw [hSd]; rfl
      simpa using e
    have hS1 : S[2 * i + 1]? = some q := by
      have e : (S.drop (2 * i))[1]? = some q := by rw [hSd]; rfl
      simpa using e
    have hsp1 : ((-1) :: zs S)[2 * i + 1]? = some (p : Int) := by
      rw [List.getElem?_cons_succ, List.getElem?_map, hS0]; rfl
    have hsp2 : ((-1) :: zs S)[2 * i + 2]? = some (q : Int) := by
      rw [List.getElem?_cons_succ, List.getElem?_map, hS1]; rfl
    have nR : ∀ {b : Addr}, b ≠ RI → b ∉ [RI] := fun hb q => hb (List.mem_singleton.mp q)
    refine W.item i _ _ _ hlt hst fun v h₅ tk₅ hP hst₅ hk₅ => ?_
    obtain ⟨tv, rfl⟩ := hP
    have F₅ : Fr g L h₅ m' := ⟨F'.ns.at' fun o e => hk₅ _ o (nR (Ne.symm hRL)) e, fun b o e => hk₅ b o (nR fun q => by rw [q, hgR] at e; cases e) (F'.keep b o e), F'.above⟩
    refine wpAny_assign_Name (stS F₅ fun h₆ F₆ hs₆ => ?_)
    rw [show (0 : Int) + (i : Int) * 2 = ((2 * i : Nat) : Int) from by omega] at F₆
    have hlS₆ : h₆.IsList SP spv := (hlS'.at fun o e => hk₅ _ o (nR (Ne.symm hRS)) e).extBut hs₆.extBut hSL
    have hlN₆ : h₆.PlainList N items := (hlN'.at fun o e => hk₅ _ o (nR (Ne.symm hRN)) e).at fun o e => (hs₆.2 _ hNL).trans e
    have hst₆ : IsRangeIter h₆ RI (0 + ((i + 1 : Nat) : Int) * 2) (((S.length / 2 : Nat) : Int) - ((i + 1 : Nat) : Int)) 2 := (hs₆.2 _ hRL).trans hst₅
    have hp₆ : Paired (AnsAt h₆ [N, L, RI]) items.toList done := paired_mono (fun v a q => q.keep (fun b o hb e => by
      have h1 : b ≠ L := fun q => hb (by simp [q])
      have h2 : b ≠ RI := fun q => hb (by simp [q])
      exact (hs₆.2 b h1).trans (hk₅ b o (nR h2) e)) (fun b o hb _ => hb)) hp
    obtain ⟨nN6, hoN6⟩ := id hlN₆
    have htx : (stOf cs).length ≤ sizeLine := by rw [stOf_len, sizeLine_eq]; omega
    have hbig : ((S.length : Nat) : Int) < 2 ^ 63 := by omega
    refine wpAny_execs_cons (wpAny_Expr_any (MethodCall_ (nmL F₆.ns (v := .ref N) (by exact hma') (Calls.getMethod_list_append hoN6 rfl rfl ?_))))
    refine callWith_method1 (args_cons (List_ (args_cons ?_)))
    have hmk : (fun y : Str => if y = "k" then some (Value.int ((2 * i : Nat) : Int) tv) else m' y) "k" = some (.int ((2 * i : Nat) : Int) tv) := rfl
    have e1 : (((2 * i : Nat) : Int)).toNat = 2 * i := by omega
    have e2 : (((2 * i : Nat) : Int) + 1).toNat = 2 * i + 1 := by omega
    have e3 : (((2 * i : Nat) : Int) + 2).toNat = 2 * i + 2 := by omega
    refine el_ss (x := stOf cs) (t := t) (a := (off : Int) - 1 + 1) (b := (p : Int)) F₆.ns (by exact hmt') (el_add (el_at F₆.ns (by exact hms') hlS₆ hIS (el_nm F₆.ns hmk) (by omega) (by omega) (by rw [e1]; exact hspot)))
      (el_at F₆.ns (by exact hms') hlS₆ hIS (el_add (el_nm F₆.ns hmk)) (by omega) (by omega) (by rw [e2]; exact hsp1)) htx fun h₇ t₇ k₇ hk₇ => ?_
    rw [slice_ss_eq' cs off p (by omega) rfl (by omega) (by omega)]
    have F₇ : Fr g L h₇ _ := ⟨F₆.ns.keeps hk₇, fun b o e => hk₇ b o (F₆.keep b o e), F₆.above⟩
    have hlS₇ : h₇.IsList SP spv := hlS₆.at fun o e => hk₇ _ o e
    refine args_cons ?_
    refine el_ss (x := stOf cs) (t := t) (a := (p : Int) + 1) (b := (q : Int)) F₇.ns (by exact hmt') (el_add (el_at F₇.ns (by exact hms') hlS₇ hIS (el_add (el_nm F₇.ns hmk)) (by omega) (by omega) (by rw [e2]; exact hsp1)))
      (el_at F₇.ns (by exact hms') hlS₇ hIS (el_add (el_nm F₇.ns hmk)) (by omega) (by omega) (by rw [e3]; exact hsp2)) htx fun h₈ t₈ k₈ hk₈ => ?_
    rw [slice_ss_eq' cs (p + 1) q (by omega) rfl (by omega) (by omega)]
    have F₈ : Fr g L h₈ _ := ⟨F₇.ns.keeps hk₈, fun b o e => hk₈ b o (F₇.keep b o e), F₇.above⟩
    have hlS₈ : h₈.IsList SP spv := hlS₇.at fun o e => hk₈ _ o e
    refine args_cons ?_
    refine el_sn (x := stOf cs) (t := t) (a := (q : Int) + 1) F₈.ns (by exact hmt') (el_add (el_at F₈.ns (by exact hms') hlS₈ hIS (el_add (el_nm F₈.ns hmk)) (by omega) (by omega) (by rw [e3]; exact hsp2))) htx fun h₉ t₉ k₉ hk₉ => ?_
    rw [slice_sn_eq' cs (q + 1) (by omega) (by omega)]
    have F₉ : Fr g L h₉ _ := ⟨F₈.ns.keeps hk₉, fun b o e => hk₉ b o (F₈.keep b o e), F₈.above⟩
    have hd1 : (cs.drop off).take (p - off) = x1 := by rw [hcd, hp1]; simp
    have hdp : cs.drop (p + 1) = x2 ++ 39 :: x3 := by
      have : cs.drop (p + 1) = (cs.drop off).drop (x1.length + 1) := by rw [List.drop_drop, hp1]; congr 1
      rw [this, hcd, show x1 ++ 39 :: (x2 ++ 39 :: x3) = (x1 ++ [39]) ++ (x2 ++ 39 :: x3) from by simp, List.drop_left' (by simp)]
    have hd2 : (cs.drop (p + 1)).take (q - (p + 1)) = x2 := by
      rw [hdp, show q - (p + 1) = x2.length from by omega]; simp
    have hd3 : cs.drop (q + 1) = x3 := by
      have : cs.drop (q + 1) = (cs.drop (p + 1)).drop (x2.length + 1) := by rw [List.drop_drop]; congr 1; omega
      rw [this, hdp, show x2 ++ 39 :: x3 = (x2 ++ [39]) ++ x3 from by simp, List.drop_left' (by simp)]
    rw [hd1, hd2, hd3]
    have hk69 : ∀ b o, h₆.get? b = some o → h₉.get? b = some o := fun b o e => hk₉ b o (hk₈ b o (hk₇ b o e))
    refine args_nil (newL F₉ (fun X h₁₀ F₁₀ hlX hXL hgX hX9 hk₁₀ => ?_) (by rw [sizeLine_eq]; simp))
    have hwz : items.size ≤ sizeLine := by rw [sizeLine_eq]; omega
    refine args_nil (wpAny_list_append_plain (hsz := hwz) (hlN₆.at fun o e => hk₁₀ _ o (hk69 _ o e)) fun h₁₁ hl₁₁ hs₁₁ => wpAny_execs_nil ?_)
    have hXN : X ≠ N := fun q => by rw [q, hk69 _ _ hoN6] at hX9; cases hX9
    have hXR : X ≠ RI := fun q => by rw [q, hk69 _ _ hst₆] at hX9; cases hX9
    refine ⟨S.length / 2 + 1 - (i + 1), by omega, h₁₁, _, _, i + 1, q + 1, done ++ [.cut x1 x2 x3], _, rfl, rfl, hlt, ?_, frSame F₁₀ hs₁₁ hgN hNL, (by exact hmt'), (by exact hms'), (by exact hma'), ?_, hl₁₁, ?_, ?_, ?_, by omega, ?_, ?_⟩
    · exact (hs₁₁.2 _ hRN).trans (hk₁₀ _ _ (hk69 _ _ hst₆))
    · exact (hlS₆.at fun o e => hk₁₀ _ o (hk69 _ o e)).extBut hs₁₁.extBut hSN
    · have p1 : Paired (AnsAt h₁₁ [N, L, RI]) items.toList done := paired_mono (fun v a q => q.keep (fun b o hb e => by
        have h1 : b ≠ N := fun q => hb (by simp [q])
        exact (hs₁₁.2 b h1).trans (hk₁₀ _ _ (hk69 _ _ e))) (fun b o hb _ => hb)) hp₆
      have q5 : AnsAt h₁₁ [N, L, RI] (.ref X) (.cut x1 x2 x3) := ⟨X, t₇, t₈, t₉, rfl, by simp [hXN, hXL, hXR], hlX.isList.extBut hs₁₁.extBut hXN⟩
      simpa using Paired.snoc p1 q5
    · rw [htold, told_cut hsp, hd3]; simp
    · rw [hd3, ← hrest, show 2 * (i + 1) = 2 * i + 2 from by omega, ← List.drop_drop, hSd]; rfl
    · rw [show 2 * (i + 1) = 2 * i + 2 from by omega, hsp2]
      congr 1
      omega
    · simp; omega
  · have hin : i = S.length / 2 := by omega
    refine W.done _ _ _ (hin ▸ hst) fun h₅ tk₅ hk₅ => ?_
    have nR : ∀ {b : Addr}, b ≠ RI → b ∉ [RI] := fun hb q => hb (List.mem_singleton.mp q)
    have F₅ : Fr g L h₅ m' := ⟨F'.ns.at' fun o e => hk₅ _ o (nR (Ne.symm hRL)) e, fun b o e => hk₅ b o (nR fun q => by rw [q, hgR] at e; cases e) (F'.keep b o e), F'.above⟩
    refine wpAny_execs_nil ?_
    have hlS₅ : h₅.IsList SP spv := hlS'.at fun o e => hk₅ _ o (nR (Ne.symm hRS)) e
    have hlN₅ : h₅.PlainList N items := hlN'.at fun o e => hk₅ _ o (nR (Ne.symm hRN)) e
    have hp₅ : Paired (AnsAt h₅ [N, L, RI]) items.toList done := paired_mono (fun v a q => q.keep (fun b o hb e => by
      have h2 : b ≠ RI := fun q => hb (by simp [q])
      exact hk₅ b o (nR h2) e) (fun b o hb _ => hb)) hp
    have htx : (stOf cs).length ≤ sizeLine := by rw [stOf_len, sizeLine_eq]; omega
    obtain ⟨nN5, hoN5⟩ := id hlN₅
    refine wpAny_execs_cons (wpAny_Return_some (wpAny_BinOp (nmL F₅.ns hma' (List_ (args_cons (Tuple_ (args_cons (Constant_none (args_cons (Constant_none (args_cons ?_))))))))))) 
    have hx2 : (((S.length : Int) + 1 - 1).fdiv 2) * 2 = ((2 * i : Nat) : Int) := by rw [Int.fdiv_eq_ediv_of_nonneg _ (by decide)]; omega
    have e1 : (((2 * i : Nat) : Int)).toNat = 2 * i := by omega
    refine el_sn (x := stOf cs) (t := t) (a := (off : Int) - 1 + 1) F₅.ns hmt' (el_add (el_at (k := ((2 * i : Nat) : Int)) F₅.ns hms' hlS₅ hIS (fun Q' tk' hq => ?_) (by omega) (by omega) (by rw [e1]; exact hspot))) htx fun h₆ t₆ k₆ hk₆ => ?_
    · refine wpAny_BinOp (wpAny_BinOp (wpAny_BinOp (Call_ ?_)))
      refine nmB (T.keeps F₅.keep) (by simp) Boot.«len» (PyProof.Rows.callWith_builtin1 (args_cons (nmL F₅.ns (v := .ref SP) hms' (args_nil ?_))))
      refine Calls.call_len_list hlS₅ (by rw [hspz]; omega) (wpAny_Constant_int (sub_int (wpAny_Constant_int (floordiv_int (by decide) (wpAny_Constant_int (mul_int ?_ (IntMulOk.of_right (by decide)))) (.inl (PyProof.noPylong_small (by decide)))))))
      rw [hspz, show (((S.length + 1 : Nat)) : Int) = (S.length : Int) + 1 from by omega, hx2]
      exact hq _ _
    rw [slice_sn_eq' cs off (by omega) hoff]
    have F₆ : Fr g L h₆ _ := ⟨F₅.ns.keeps hk₆, fun b o e => hk₆ b o (F₅.keep b o e), F₅.above⟩
    refine args_nil (newTupF F₆ (fun X h₇ F₇ hX hXL hgX hX6 hk₇ => ?_) (by rw [sizeLine_eq]; simp))
    refine args_nil (newL F₇ (fun Y h₈ F₈ hY hYL hgY hY7 hk₈ => ?_) (by rw [sizeLine_eq]; simp))
    have hk58 : ∀ b o, h₅.get? b = some o → h₈.get? b = some o := fun b o e => hk₈ b o (hk₇ b o (hk₆ b o e))
    refine addLF F₈ (hlN₅.isList.at fun o e => hk58 _ o e) hY.isList (fun Z h₉ F₉ hZ hZL hgZ hZ8 hk₉ => ?_) (by rw [sizeLine_eq]; simp; omega)
    refine hok Z _ h₉ _ _ F₉ hZ ?_
    have hft : told (cs.drop off) = [.fin (cs.drop off)] := told_fin (ticks_few (off := off) (by rw [← hdrop]; simp; omega))
    rw [htold, hft]
    have p1 : Paired (AnsAt h₉ []) items.toList done := paired_mono (fun v a q => q.keep (fun b o hb e => hk₉ b o (hk58 b o e)) (fun b o hb _ => by simp)) hp₅
    have q5 : AnsAt h₉ [] (.ref X) (.fin (cs.drop off)) := ⟨X, t₆, rfl, by simp, hX.at fun o e => hk₉ _ o (hk₈ _ o e)⟩
    simpa using Paired.snoc p1 q5
end Mine
end

/-! ## MDue2 -/
section
open PySem PySem.W PyProof.Rows PySem.Calls
namespace Mine


theorem nmC {M : Model} {A : Around} {E : Value → Shared → Prop} {s : Shared} {env : Env} {Q : Value → Shared → Prop} {x : Str} {pos : Pos} {c : Addr} {v : Value} (hv : s.heap.IsCell c (some v)) (h : Q v s)
    (hc : env.cells.lookup x = some c := by rfl) (hk : env.scope.kind = .function := by rfl) (hl : env.kindOf x = some .cell := by rfl) (hd : (x == ("__debug__" : Str)) = false := by decide) :
    wpAny M A (eval (.Name x pos) env) Q E s := wpAny_Name (wpAny_loadName_cell hk hl hc hv h) hd

/-- the ints of a filtered range -/
theorem ints_filter {pz : Nat → Bool} {p : Value → Bool} (hp : ∀ (k : Nat) t, p (.int (k : Int) t) = pz k) : ∀ {vs ys : List Value} {ks : List Nat}, IntsAre vs (zs ks) → Paired (fun v y => y = v) (vs.filter p) ys → IntsAre ys (zs (ks.filter pz))
  | _, ys, [], h, q => by
    cases h
    cases q
    exact .nil
  | _, ys, k :: ks, h, q => by
    cases h with
    | cons _ t h' =>
      by_cases hk : pz k = true
      · rw [List.filter_cons, if_pos ((hp k t).trans hk)] at q
        rw [List.filter_cons, if_pos hk]
        cases q with
        | cons e q' =>
          subst e
          exact .cons _ _ (ints_filter hp h' q')
      · rw [List.filter_cons, if_neg (by rw [hp]; exact hk)] at q
        rw [List.filter_cons, if_neg hk]
        exact ints_filter hp h' q

def pTick (cs : List Nat) : Value → Bool
  | .int k _ => cs[k.toNat]? == some 39
  | _ => false

set_option maxHeartbeats 4000000 in
theorem due_call {w : World} {A : Around} {E : Value → Shared → Prop} {Q : Value → Shared → Prop} {s : Shared} {mg mb : Str → Option Value} {f : Addr} {l : Addr} {items : Array Value} {cs : List Nat}
    (hh : A.handled = none) (hroom : A.depth + 1 < recursionLimit) (T : Facts mg mb s.heap) (hf : mg (recAt 10).name = some (.ref f))
    (hl : s.heap.IsList l items) (hI : IntsAre items.toList (zs cs)) (hc : ∀ c ∈ cs, c < 128) (hsz : cs.length ≤ 1000000)
    (hok : ∀ N ys h' tk, h'.PlainList N ys → Paired (AnsAt h' []) ys.toList (told cs) → (∀ b o, s.heap.get? b = some o → h'.get? b = some o) → Q (.ref N) { s with heap := h', toks := tk }) :
    wpAny (model pg w) A (call (.ref f) [.ref l]) Q E s := by
  obtain ⟨f', o, pm, code, doc, h1, h2, h3, h4⟩ := T.fn 10 (by simp)
  rw [hf] at h1
  cases h1
  refine wpAny_call (call_cells (binds := [("octets", .ref l)]) (by omega) h2 h3 T.nolimit h4 rfl (by intro y hy; obtain rfl := List.mem_singleton.mp hy; exact .inr ⟨rfl, rfl⟩) fun h₁ tk₁ F₁ X₁ => ?_)
  have hcell₁ : h₁.IsCell (s.heap.objs.size + 1) (some (.ref l)) := X₁.cell "octets" _ rfl
  refine wpAny_execs_cons (wpAny_Assign_Name (MethodCall_ (Constant_str (GM.join ?_))))
  refine callWith_method1 (args_cons ?_)
  refine comp_chr (l := l) (items := items) (cs := cs) (by exact hh) (T.keeps F₁.keep) (closureFor_none (by decide)) (by decide) rfl (by decide) rfl (fun Q' hq => wpAny_Name (wpAny_loadName_cell rfl rfl rfl hcell₁ hq)) (hl.at fun o e => F₁.keep _ o e) hI hc hsz fun D ys h₂ tk₂ hplD hst hk₂ => ?_
  refine args_nil (join_chr hplD.isList hst hsz fun t' tk₃ => ?_)
  have F₂ : Fr s.heap s.heap.objs.size h₂ _ := ⟨F₁.ns.keeps hk₂, fun b o e => hk₂ b o (F₁.keep b o e), F₁.above⟩
  have hcell₂ := hcell₁.keeps hk₂
  refine stS F₂ fun h₃ F₃ hs₃ => ?_
  have hcL : s.heap.objs.size + 1 ≠ s.heap.objs.size := by omega
  have hcell₃ : h₃.IsCell (s.heap.objs.size + 1) (some (.ref l)) := by
    obtain ⟨oc, hoc, hdc⟩ := hcell₂
    exact ⟨oc, (hs₃.2 _ hcL).trans hoc, hdc⟩
  have hl₃ : h₃.IsList l items := hl.at fun o e => F₃.keep _ o e
  have hisz : items.size = cs.length := by
    have e := hI.length
    simpa using e
  -- spots
  refine wpAny_execs_cons (wpAny_Assign_Name (wpAny_BinOp (List_ (args_cons (UnaryOp_ (wpAny_Constant_int (neg_int (args_nil ?_))))))))
  refine newL F₃ (fun N₄ h₄ F₄ hl₄ hN₄ _ _ hk₄ => ?_) (by rw [sizeLine_eq]; simp)
  refine comp_range (n := cs.length) (pTick cs) (fun v y => y = v) (by exact hh) (cl := [("octets", s.heap.objs.size + 1)]) rfl (by decide) rfl (by decide) rfl hsz ?_ ?_ ?_ ?_
  · intro Q' hq
    refine Call_ (nmB (T.keeps F₄.keep) (by simp) Boot.«range» (PyProof.Rows.callWith_type1 (args_cons (Call_ ?_))))
    refine nmB (T.keeps F₄.keep) (by simp) Boot.«len» (PyProof.Rows.callWith_builtin1 (args_cons (nmC (hcell₃.keeps hk₄) (args_nil ?_))))
    refine Calls.call_len_list (hl₃.at fun o e => hk₄ _ o e) (by rw [hisz]; omega) (args_nil ?_)
    rw [hisz]
    refine call_range_1 ?_
    exact hq _ _ _ _ _ _ (Heap.get?_push_size _ rfl) fun b o e => Heap.get?_push_of_some _ e
  · intro C k t s₅ m₅ E' hk hn hm hk₅
    have hge : cs[k]? = some cs[k] := List.getElem?_eq_getElem hk
    refine wpAny_tests_one (wpAny_isTrue_Compare1 (Subscript_ (nmC ((hcell₃.keeps hk₄).keeps hk₅) (nmL hn hm ?_))))
    refine item_intsR (v := ((cs[k] : Nat) : Int)) (hl₃.at fun o e => hk₅ _ o (hk₄ _ o e)) hI (by omega) (by omega) (by rw [Int.toNat_natCast, List.getElem?_map, hge]; rfl) fun t' => ?_
    refine wpAny_Constant_int (eq_int (wpAny_truthy_bool ⟨?_, Keeps.of fun _ _ e => e⟩))
    show _ = (cs[(k : Int).toNat]? == some 39)
    rw [Int.toNat_natCast, hge, Bool.eq_iff_iff]
    simp
    omega
  · intro C k t s₅ m₅ E' hk hp hn hm hk₅
    exact nmL hn hm ⟨rfl, Keeps.refl _⟩
  · intro D₅ h₅ tk₅ ys₅ vs₅ hvs hD₅ hpl₅ hpair hk₅
    have hints : IntsAre ys₅.toList (zs (ticksFrom 0 cs)) := by
      rw [ticks_filter]
      exact ints_filter (pz := fun j => cs[j - 0]? == some 39) (fun k t => rfl) hvs hpair
    have F₅ : Fr s.heap s.heap.objs.size h₅ _ := ⟨F₄.ns.keeps hk₅, fun b o e => hk₅ b o (F₄.keep b o e), F₄.above⟩
    have hsp : ys₅.size = (ticksFrom 0 cs).length := by
      have e := hints.length
      simpa using e
    have htl := ticks_len cs 0
    refine addLF F₅ (hl₄.isList.at fun o e => hk₅ _ o e) hpl₅.isList (fun N₆ h₆ F₆ hl₆ hN₆ _ _ hk₆ => ?_) (by rw [sizeLine_eq, hsp]; simp; omega)
    refine stS F₆ fun h₇ F₇ hs₇ => ?_
    obtain ⟨spv, hlS, hIS⟩ : ∃ spv, h₇.IsList N₆ spv ∧ IntsAre spv.toList ((-1) :: zs (ticksFrom 0 cs)) :=
      ⟨_, hl₆.isList.extBut hs₇.extBut hN₆, by rw [Array.toList_append]; exact .cons _ _ hints⟩
    refine due_rest (g := s.heap) (L := s.heap.objs.size) (t := t') (by exact hh) T F₇ rfl rfl hlS hN₆ hIS hsz PassesOwn.leaving ?_
    intro N ys h' tk m' F' hpl hpa
    exact hok N ys h' tk hpl hpa F'.keep
end Mine
end

/-! ## MTwo -/
section
open PySem PySem.W PyProof.Rows PySem.Calls
namespace Mine

/-- all outside wr stands as it stood; and all stands up to the slots -/
def Kp (wr : List Addr) (h h' : Heap) : Prop := (∀ b o, b ∉ wr → h.get? b = some o → h'.get? b = some o) ∧ h.UpToSlots h'
theorem Kp.refl (wr : List Addr) (h : Heap) : Kp wr h h := ⟨fun _ _ _ e => e, .refl h⟩
theorem Kp.of {wr : List Addr} {h h' : Heap} (k : ∀ b o, h.get? b = some o → h'.get? b = some o) : Kp wr h h' := ⟨fun b o _ e => k b o e, .of_keeps k⟩
theorem Kp.trans {wr : List Addr} {h h' h'' : Heap} (x : Kp wr h h') (y : Kp wr h' h'') : Kp wr h h'' := ⟨fun b o hb e => y.1 b o hb (x.1 b o hb e), x.2.trans y.2⟩
/-- a step that moves nothing that stood in h -/
theorem Kp.step {wr : List Addr} {h h' h'' : Heap} (x : Kp wr h h') (y : ∀ b o, (∃ q, h.get? b = some q) → h'.get? b = some o → h''.get? b = some o) : Kp wr h h'' :=
  ⟨fun b o hb e => y b o ⟨o, e⟩ (x.1 b o hb e), fun b o e hn => let ⟨sl, e'⟩ := x.2 b o e hn; ⟨sl, y b _ ⟨o, e⟩ e'⟩⟩

section
variable {prog : Program} {w : World} {A : Around} {E : Value → Shared → Prop} {R : Result → Shared → Prop} {s : Shared}

theorem compTurn_two0 (elt t0 i0 t1 i1 : Expr) (scope : Scope) (pos : Pos) (it acc : Value) (env : Env) :
    compTurn (.ListComp elt [⟨t0, i0, [], 0⟩, ⟨t1, i1, [], 0⟩] scope pos) 0 it acc env = (standAt i0.pos >>= fun _ => pyNext it >>= fun r => match r with
      | none => pure (.done .next)
      | some v => letOwnedTupleGo t0 it v >>= fun _ => assign t0 env v >>= fun _ =>
        eval i1 env >>= fun x => standAt i1.pos >>= fun _ => foldedSetIterable i1 env x >>= fun x => holding [x] (pyIter x) >>= fun it' =>
          runOwn (.compStart (.ListComp elt [⟨t0, i0, [], 0⟩, ⟨t1, i1, [], 0⟩] scope pos) 1 it' acc env) env >>= fun _ =>
          again (.compLoop (.ListComp elt [⟨t0, i0, [], 0⟩, ⟨t1, i1, [], 0⟩] scope pos) 0 it acc env)) := by rfl
theorem compTurn_two1 (elt t0 i0 t1 i1 : Expr) (scope : Scope) (pos : Pos) (it acc : Value) (env : Env) :
    compTurn (.ListComp elt [⟨t0, i0, [], 0⟩, ⟨t1, i1, [], 0⟩] scope pos) 1 it acc env = (standAt i1.pos >>= fun _ => pyNext it >>= fun r => match r with
      | none => pure (.done .next)
      | some v => letOwnedTupleGo t1 it v >>= fun _ => assign t1 env v >>= fun _ =>
        (eval elt env >>= fun x => call (.builtin "list.append") [acc, x] >>= fun _ => pure ()) >>= fun _ =>
          again (.compLoop (.ListComp elt [⟨t0, i0, [], 0⟩, ⟨t1, i1, [], 0⟩] scope pos) 1 it acc env)) := by rfl

theorem compStart_two1 {elt t0 i0 t1 i1 scope pos it acc env}
    (h0 : codeAny (model prog w) A (.compLoop (.ListComp elt [⟨t0, i0, [], 0⟩, ⟨t1, i1, [], 0⟩] scope pos) 1 it acc env) R s)
    (h : wpAny (model prog w) A (pyIter it) (fun it' s' => codeAny (model prog w) A (.compLoop (.ListComp elt [⟨t0, i0, [], 0⟩, ⟨t1, i1, [], 0⟩] scope pos) 1 it' acc env) R s')
      (notedBy (model prog w) A env fun x s' => R (.error x) s') s) :
    codeAny (model prog w) A (.compStart (.ListComp elt [⟨t0, i0, [], 0⟩, ⟨t1, i1, [], 0⟩] scope pos) 1 it acc env) R s := by
  refine codeAny_of_tree ?_
  show wpAny _ _ ((compStart (.ListComp elt [⟨t0, i0, [], 0⟩, ⟨t1, i1, [], 0⟩] scope pos) 1 it acc env).onRaise (fun x => do noteFrame x env; standAt theWindowsPlace)) _ _ s
  refine wpAny_notedAt ?_
  unfold compStart
  show wpAny _ _ (ask >>= _) _ _ s
  refine wpAny_bind (wpAny_askSetting (wpAny_ite ?_))
  split
  · first
      | exact wpAny_bind (wpAny_pure (wpAny_pure (And.intro rfl h0)))
      | exact wpAny_pure (And.intro rfl h0)
  · first
      | exact wpAny_bind (wpAny_rule (wpAny_bind (wpAny_standAt (wpAny_bind (wpAny_mono h (fun it' s' h' => wpAny_pure (And.intro rfl h')) fun _ _ x => x)))))
      | (refine wpAny_bind (wpAny_rule ?_); show wpAny _ _ (standAt i1.pos >>= _) _ _ s; exact wpAny_bind (wpAny_standAt (wpAny_bind (wpAny_mono h (fun it' s' h' => wpAny_pure (And.intro rfl h')) fun _ _ x => x))))

theorem inner_loop {i0 i1 : Expr} {x y : Str} {px py pe : Pos} {scope : Scope} {pos : Pos} {cenv : Env} {I N D : Addr} {ys ds : Array Value} {m : Str → Option Value}
    (hh : A.handled = none) (hk : cenv.scope.kind = .function) (hy : cenv.kindOf y = some .local) (hd : (y == ("__debug__" : Str)) = false)
    (hIC : I ≠ cenv.locals) (hIN : N ≠ I) (hID : I ≠ D) (hND : N ≠ D) (hNC : N ≠ cenv.locals) (hDC : D ≠ cenv.locals)
    (hit : s.heap.IsListIter I N 0) (hl : s.heap.IsList N ys) (hacc : s.heap.PlainList D ds) (hn : s.heap.Ns cenv.locals m) (hsz : ds.size + ys.size ≤ sizeLine)
    (hR : ∀ h' tk m', h'.Ns cenv.locals m' → h'.PlainList D (ds ++ ys) → (∀ b o, b ≠ cenv.locals → b ≠ I → b ≠ D → s.heap.get? b = some o → h'.get? b = some o) → R (.ok .next) { s with heap := h', toks := tk }) :
    codeAny (model prog w) A (.compLoop (.ListComp (.Name y pe) [⟨.Name x px, i0, [], 0⟩, ⟨.Name y py, i1, [], 0⟩] scope pos) 1 (.ref I) (.ref D) cenv) R s := by
  have W := Walks.list (prog := prog) (w := w) hh I N hIN ys
  refine codeAny_loop rfl (fun k s' => ∃ h' tk m' i, s' = { s with heap := h', toks := tk } ∧ k = ys.size + 1 - i ∧ i ≤ ys.size ∧ h'.IsListIter I N i ∧ h'.IsList N ys ∧ h'.PlainList D (ds ++ (ys.toList.take i).toArray) ∧ h'.Ns cenv.locals m' ∧
      (∀ b o, b ≠ cenv.locals → b ≠ I → b ≠ D → s.heap.get? b = some o → h'.get? b = some o)) ?_ (ys.size + 1) ⟨s.heap, s.toks, m, 0, rfl, rfl, Nat.zero_le _, hit, hl, by simpa using hacc, hn, fun _ _ _ _ _ e => e⟩
  rintro _ s' ⟨h', tk, m', i, rfl, rfl, hi, hit', hl', hacc', hn', hk'⟩
  show wpAny _ A ((compTurn (.ListComp (.Name y pe) [⟨.Name x px, i0, [], 0⟩, ⟨.Name y py, i1, [], 0⟩] scope pos) 1 (.ref I) (.ref D) cenv).onRaise (fun x => do noteFrame x cenv; theTreesLotGoes x)) _ _ _
  refine wpAny_noted ?_
  rw [compTurn_two1]
  refine wpAny_bind (wpAny_standAt (wpAny_bind ?_))
  have nI : ∀ {b : Addr}, b ≠ I → b ∉ [I] := fun hb q => hb (List.mem_singleton.mp q)
  by_cases hlt : i < ys.size
  · refine W.item i _ _ _ hlt ⟨hit', hl'⟩ fun v h₁ tk₁ hP hst₁ hk₁ => ?_
    have hn₁ : h₁.Ns cenv.locals m' := hn'.at' fun o e => hk₁ _ o (nI (Ne.symm hIC)) e
    refine wpAny_bind (wpAny_pure (wpAny_bind (wpAny_assign_Name (wpAny_storeName_local hy hn₁ (fun h₂ hn₂ hs₂ => ?_) (by rw [hk]; rfl)))))
    refine wpAny_bind (wpAny_bind (nmL hn₂ (v := v) (by simp) (wpAny_bind ?_) hk hy hd))
    have hacc₂ : h₂.PlainList D (ds ++ (ys.toList.take i).toArray) := (hacc'.at fun o e => hk₁ _ o (nI (Ne.symm hID)) e).at fun o e => (hs₂.2 _ hDC).trans e
    refine wpAny_list_append_plain (hsz := by simp; omega) hacc₂ fun h₃ hl₃ hs₃ => wpAny_pure (wpAny_pure ⟨rfl, ys.size + 1 - (i + 1), by omega, h₃, _, _, i + 1, rfl, rfl, hlt, ?_, ?_, ?_, hn₂.sameBut hs₃ (Ne.symm hDC), ?_⟩)
    · exact (Heap.IsListIter.extBut (b := cenv.locals) hst₁.1 hs₂.extBut hIC).extBut hs₃.extBut hID
    · exact (hst₁.2.extBut hs₂.extBut hNC).extBut hs₃.extBut hND
    · have e : ds ++ (ys.toList.take (i + 1)).toArray = (ds ++ (ys.toList.take i).toArray).push v := by
        rw [List.take_add_one, Array.getElem?_toList, hP]
        simp
      rw [e]
      exact hl₃
    · intro b o hbC hbI hbD e
      exact (hs₃.2 b hbD).trans ((hs₂.2 b hbC).trans (hk₁ b o (nI hbI) (hk' b o hbC hbI hbD e)))
  · have hin : i = ys.size := by omega
    subst hin
    refine W.done _ _ _ ⟨hit', hl'⟩ fun h₁ tk₁ hk₁ => wpAny_pure ?_
    refine hR h₁ tk₁ m' (hn'.at' fun o e => hk₁ _ o (nI (Ne.symm hIC)) e) ?_ fun b o hbC hbI hbD e => hk₁ b o (nI hbI) (hk' b o hbC hbI hbD e)
    have e : ds ++ (ys.toList.take ys.size).toArray = ds ++ ys := by rw [← Array.length_toList, List.take_length]
    rw [← e]
    exact hacc'.at fun o e => hk₁ _ o (nI (Ne.symm hID)) e


variable {env : Env}

set_option maxHeartbeats 4000000 in
theorem comp_two_block {i0 i1 : Expr} {x y : Str} {px py pe : Pos} {scope : Scope} {cl : List (Str × Addr)} {pos : Pos} {s₂ : Shared} {h0 : Heap} {I l : Addr} {items : Array Value} {wr : List Addr} {B : Nat} (G : Value → List Value → Prop)
    {RR : Value → Addr → Result → Shared → Prop}
    (hh : A.handled = none) (hcell : ∀ y ∈ scope.names, y.2 ≠ .cell) (hkind : scope.kind = .function) (hx : scope.names.lookup x = some .local) (hy : scope.names.lookup y = some .local) (hd : (y == ("__debug__" : Str)) = false)
    (hk0 : ∀ b o, h0.get? b = some o → s₂.heap.get? b = some o) (hI0 : h0.get? I = none) (hit : s₂.heap.IsListIter I l 0) (hl : h0.IsList l items) (hlw : l ∉ wr) (hwr : ∀ b ∈ wr, ∃ o, h0.get? b = some o)
    (hfold : ∀ C v, foldedSetIterable i1 (compEnvC scope cl C env) v = pure v)
    (hB : ∀ v ys, G v ys → ys.length ≤ B) (hsz : items.size * B ≤ sizeLine)
    (hinner : ∀ C v s₃ m₃ E' (Q' : Value → Shared → Prop), v ∈ items.toList → s₃.heap.Ns C m₃ → m₃ x = some v → Kp wr h0 s₃.heap → h0.get? C = none →
      (∀ N ys h' tk, h'.IsList N ys → G v ys.toList → s₃.heap.get? N = none → Kp wr s₃.heap h' → Q' (.ref N) { s₃ with heap := h', toks := tk }) →
      wpAny (model prog w) A (eval i1 (compEnvC scope cl C env)) Q' E' s₃)
    (hRR : ∀ D C h' tk m' ys yss, h0.get? D = none → h0.get? C = none → D ≠ C → h'.Ns C m' → h'.PlainList D ys → Paired G items.toList yss → ys.toList = yss.flatten → Kp wr h0 h' → RR (.ref D) C (.ok .next) { s₂ with heap := h', toks := tk }) :
    wpAny (model prog w) A (newList []) (fun acc s₃ => wpAny (model prog w) A (newFunctionEnv scope env.globals cl [] env.qual none .none (some env)) (fun cenv s₄ =>
      codeAny (model prog w) A (.compStart (.ListComp (.Name y pe) [⟨.Name x px, i0, [], 0⟩, ⟨.Name y py, i1, [], 0⟩] scope pos) 0 (.ref I) acc { cenv with scope := relabel scope env }) (RR acc cenv.locals) s₄) E s₃) E s₂ := by
  refine wpAny_newObj_type (wpAny_newFunctionEnv hcell (by intro y hy; simp at hy) (fun h₁ hns₁ hsb₁ => ?_) hkind)
  dsimp only at hns₁ hsb₁ ⊢
  generalize hH2 : s₂.heap.push { cls := .type "list", dict := none, data := .seq ([] : List Value).toArray } = H2 at hns₁ hsb₁ ⊢
  have hC : H2.objs.size = s₂.heap.objs.size + 1 := by rw [← hH2, Heap.size_push]
  have hDC : s₂.heap.objs.size ≠ H2.objs.size := by rw [hC]; exact Nat.ne_of_lt (Nat.lt_succ_self _)
  have below : ∀ b, b < s₂.heap.objs.size → b ≠ H2.objs.size ∧ b ≠ s₂.heap.objs.size := fun b hb => ⟨by rw [hC]; exact Nat.ne_of_lt (Nat.lt_succ_of_lt hb), Nat.ne_of_lt hb⟩
  have old : ∀ b o, s₂.heap.get? b = some o → h₁.get? b = some o := fun b o e => hsb₁.extBut b o (below b (Heap.lt_size e)).1 (Heap.get?_push_of_some _ (hH2 ▸ Heap.get?_push_of_some _ e))
  have hacc : h₁.PlainList s₂.heap.objs.size #[] := ⟨_, hsb₁.extBut _ _ hDC (Heap.get?_push_of_some _ (hH2 ▸ Heap.get?_push_size _ rfl))⟩
  have fresh : ∀ a, s₂.heap.objs.size ≤ a → h0.get? a = none := fun a ha => by
    cases e : h0.get? a with
    | none => rfl
    | some o' => exact absurd (Heap.lt_size (hk0 _ _ e)) (Nat.not_lt.mpr ha)
  generalize hDd : s₂.heap.objs.size = D at *
  generalize hCd : H2.objs.size = C at *
  have hD0 : h0.get? D = none := fresh _ (Nat.le_refl _)
  have hC0 : h0.get? C = none := fresh _ (by rw [hC]; exact Nat.le_succ _)
  have hIlt : I < D := hDd ▸ (let ⟨_, ho, _⟩ := id hit; Heap.lt_size ho)
  have hIC : I ≠ C := (below I hIlt).1
  have hID : I ≠ D := (below I hIlt).2
  have hit₁ : h₁.IsListIter I l 0 := Heap.IsListIter.at hit fun o e => old _ o e
  have nw : ∀ {b : Addr}, h0.get? b = none → b ∉ wr := fun hb q => by obtain ⟨o, ho⟩ := hwr _ q; rw [hb] at ho; cases ho
  have hlI : l ≠ I := fun q => by obtain ⟨o, ho, _⟩ := id hl; rw [q, hI0] at ho; cases ho
  have W := Walks.list (prog := prog) (w := w) hh I l hlI items
  have hkf : (compEnvC scope cl C env).scope.kind = .function := by simp [compEnvC, relabel, hkind]
  have loop : ∀ s₃ : Shared, s₃ = { s₂ with heap := h₁, toks := s₂.toks + ([] : List (Str × Value)).length } →
      codeAny (model prog w) A (.compLoop (.ListComp (.Name y pe) [⟨.Name x px, i0, [], 0⟩, ⟨.Name y py, i1, [], 0⟩] scope pos) 0 (.ref I) (.ref D) (compEnvC scope cl C env)) (RR (.ref D) C) s₃ := by
    rintro s₃ rfl
    refine codeAny_loop rfl (fun k s' => ∃ h' tk m' ys yss i, s' = { s₂ with heap := h', toks := tk } ∧ k = items.size + 1 - i ∧ i ≤ items.size ∧ h'.IsListIter I l i ∧ Kp wr h0 h' ∧ h'.PlainList D ys ∧ h'.Ns C m' ∧
      Paired G (items.toList.take i) yss ∧ ys.toList = yss.flatten ∧ ys.size ≤ i * B) ?_ (items.size + 1)
      ⟨h₁, _, _, #[], [], 0, rfl, rfl, Nat.zero_le _, hit₁, .of fun b o e => old b o (hk0 b o e), hacc, hns₁, .nil, rfl, Nat.zero_le _⟩
    rintro _ s' ⟨h', tk, m', ys, yss, i, rfl, rfl, hi, hit', K', hacc', hn', hp, hys, hyB⟩
    show wpAny _ A ((compTurn (.ListComp (.Name y pe) [⟨.Name x px, i0, [], 0⟩, ⟨.Name y py, i1, [], 0⟩] scope pos) 0 (.ref I) (.ref D) (compEnvC scope cl C env)).onRaise (fun x => do noteFrame x (compEnvC scope cl C env); theTreesLotGoes x)) _ _ _
    refine wpAny_noted ?_
    rw [compTurn_two0]
    refine wpAny_bind (wpAny_standAt (wpAny_bind ?_))
    have hl' : h'.IsList l items := hl.at fun o e => K'.1 _ o hlw e
    have nI : ∀ {b : Addr}, b ≠ I → b ∉ [I] := fun hb q => hb (List.mem_singleton.mp q)
    have in0 : ∀ {b c : Addr}, h0.get? c = none → (∃ q, h0.get? b = some q) → b ≠ c := fun hc ⟨q, hq⟩ e => by rw [e, hc] at hq; cases hq
    by_cases hlt : i < items.size
    · refine W.item i _ _ _ hlt ⟨hit', hl'⟩ fun v h₂ tk₂ hP hst₂ hk₂ => ?_
      have K₂ : Kp wr h0 h₂ := K'.step fun b o hb e => hk₂ b o (nI (in0 hI0 hb)) e
      have hn₂ : h₂.Ns C m' := hn'.at' fun o e => hk₂ _ o (nI (Ne.symm hIC)) e
      refine wpAny_bind (wpAny_pure (wpAny_bind (wpAny_assign_Name (wpAny_storeName_local (env := compEnvC scope cl C env) (lookup_relabel_local hx) hn₂ (fun h₃ hn₃ hs₃ => ?_) (by rw [hkf]; rfl)))))
      have K₃ : Kp wr h0 h₃ := K₂.step fun b o hb e => (hs₃.2 b (in0 hC0 hb)).trans e
      have hacc₃ : h₃.PlainList D ys := (hacc'.at fun o e => hk₂ _ o (nI (Ne.symm hID)) e).at fun o e => (hs₃.2 _ hDC).trans e
      have hit₃ : h₃.IsListIter I l (i + 1) := Heap.IsListIter.extBut (b := C) hst₂.1 hs₃.extBut hIC
      refine wpAny_bind (hinner C v _ _ _ _ (List.mem_of_getElem? (by simpa using hP)) hn₃ (by simp) K₃ hC0 fun N zs h₄ tk₄ hlN hG hN3 K₄ => ?_)
      have hacc₄ : h₄.PlainList D ys := hacc₃.at fun o e => K₄.1 _ o (nw hD0) e
      have hit₄ : h₄.IsListIter I l (i + 1) := Heap.IsListIter.at hit₃ fun o e => K₄.1 _ o (nw hI0) e
      have hn₄ := hn₃.at' fun o e => K₄.1 _ o (nw hC0) e
      replace hN3 : h₃.get? N = none := hN3
      have hn3' : h₃.Ns C _ := hn₃
      have hND : N ≠ D := fun q => by obtain ⟨_, ho⟩ := hacc₃; rw [q] at hN3; rw [hN3] at ho; cases ho
      have hNC : N ≠ C := fun q => by obtain ⟨o, _, _, ho, _⟩ := id hn3'; rw [q] at hN3; rw [hN3] at ho; cases ho
      obtain ⟨oN, hoN, _⟩ := id hlN
      have hNlt := Heap.lt_size hoN
      refine wpAny_bind (wpAny_standAt (wpAny_bind (wpAny_of_eq (hfold C _) (wpAny_bind (wpAny_holding (wpAny_pyIter_list hlN ?_))))))
      have hDlt : D < h₄.objs.size := by obtain ⟨_, ho⟩ := hacc₄; exact Heap.lt_size ho
      have hClt : C < h₄.objs.size := by obtain ⟨o, _, _, ho, _⟩ := id hn₄; exact Heap.lt_size ho
      have hIlt4 : I < h₄.objs.size := by obtain ⟨_, ho, _⟩ := id hit₄; exact Heap.lt_size ho
      have hzB := hB _ _ hG
      have hmul : (i + 1) * B ≤ items.size * B := Nat.mul_le_mul_right B hlt
      rw [Nat.add_mul] at hmul
      have key : ∀ {Rr : Result → Shared → Prop} {s₅ : Shared}, s₅ = { s₂ with heap := h₄.push { cls := .type "list_iterator", data := .fields #[.ref N, .int 0 0] }, toks := tk₄ } →
          (∀ h' tk m', h'.Ns C m' → h'.PlainList D (ys ++ zs) → (∀ b o, b ≠ C → b ≠ h₄.objs.size → b ≠ D → s₅.heap.get? b = some o → h'.get? b = some o) → Rr (.ok .next) { s₅ with heap := h', toks := tk }) →
          codeAny (model prog w) A (.compLoop (.ListComp (.Name y pe) [⟨.Name x px, i0, [], 0⟩, ⟨.Name y py, i1, [], 0⟩] scope pos) 1 (.ref h₄.objs.size) (.ref D) (compEnvC scope cl C env)) Rr s₅ := by
        rintro Rr s₅ rfl hr
        refine inner_loop (cenv := compEnvC scope cl C env) (N := N) (ys := zs) (ds := ys) hh hkf (lookup_relabel_local hy) hd (Nat.ne_of_gt hClt) (Nat.ne_of_lt hNlt) (Nat.ne_of_gt hDlt) hND hNC hDC ⟨_, Heap.get?_push_size _ rfl, rfl, rfl⟩ (hlN.push _) (hacc₄.at fun o e => Heap.get?_push_of_some _ e) (hn₄.at' fun o e => Heap.get?_push_of_some _ e) (by simp at hzB; omega) hr
      have fin : ∀ h₅ tk₅ m₅, h₅.Ns C m₅ → h₅.PlainList D (ys ++ zs) → (∀ b o, b ≠ C → b ≠ h₄.objs.size → b ≠ D → (h₄.push { cls := .type "list_iterator", data := .fields #[.ref N, .int 0 0] }).get? b = some o → h₅.get? b = some o) →
          ∃ m, m < items.size + 1 - i ∧ ∃ h' tk m' ys yss i, ({ s₂ with heap := h₅, toks := tk₅ } : Shared) = { s₂ with heap := h', toks := tk } ∧ m = items.size + 1 - i ∧ i ≤ items.size ∧ h'.IsListIter I l i ∧ Kp wr h0 h' ∧ h'.PlainList D ys ∧ h'.Ns C m' ∧
            Paired G (items.toList.take i) yss ∧ ys.toList = yss.flatten ∧ ys.size ≤ i * B := by
        intro h₅ tk₅ m₅ hn₅ hpl₅ hk₅
        refine ⟨items.size + 1 - (i + 1), by omega, h₅, tk₅, m₅, ys ++ zs, yss ++ [zs.toList], i + 1, rfl, rfl, hlt, ?_, ?_, hpl₅, hn₅, ?_, ?_, ?_⟩
        · exact Heap.IsListIter.at hit₄ fun o e => hk₅ _ o hIC (Nat.ne_of_lt hIlt4) hID (Heap.get?_push_of_some _ e)
        · refine (K₃.trans K₄).step fun b o hb e => hk₅ b o (in0 hC0 hb) ?_ (in0 hD0 hb) (Heap.get?_push_of_some _ e)
          exact Nat.ne_of_lt (Heap.lt_size e)
        · rw [List.take_add_one, Array.getElem?_toList, hP]
          exact Paired.snoc hp hG
        · simp [hys]
        · simp at hzB
          rw [Array.size_append, Nat.add_mul]
          omega
      refine wpAny_bind (wpAny_runOwn (compStart_two1 ?_ ?_))
      · exact key rfl fun h₅ tk₅ m₅ hn₅ hpl₅ hk₅ => wpAny_pure ⟨rfl, fin h₅ tk₅ m₅ hn₅ hpl₅ hk₅⟩
      · exact (Walks.list hh h₄.objs.size N (Nat.ne_of_lt hNlt) zs).self 0 _ _ _ ⟨⟨_, Heap.get?_push_size _ rfl, rfl, rfl⟩, hlN.push _⟩ (key rfl fun h₅ tk₅ m₅ hn₅ hpl₅ hk₅ => wpAny_pure ⟨rfl, fin h₅ tk₅ m₅ hn₅ hpl₅ hk₅⟩)
    · have hin : i = items.size := by omega
      subst hin
      refine W.done _ _ _ ⟨hit', hl'⟩ fun h₂ tk₂ hk₂ => wpAny_pure ?_
      refine hRR D C h₂ tk₂ m' ys yss hD0 hC0 hDC (hn'.at' fun o e => hk₂ _ o (nI (Ne.symm hIC)) e) (hacc'.at fun o e => hk₂ _ o (nI (Ne.symm hID)) e) ?_ hys (K'.step fun b o hb e => hk₂ b o (nI (in0 hI0 hb)) e)
      rw [← Array.length_toList, List.take_length] at hp
      exact hp
  exact codeAny_compStart_list (loop _ rfl) (W.self 0 _ _ _ ⟨hit₁, hl.at fun o e => old _ o (hk0 _ o e)⟩ (loop _ rfl))
end
end Mine
end

/-! ## MTwo2 -/
section
open PySem PySem.W PyProof.Rows PySem.Calls
namespace Mine
section
variable {prog : Program} {w : World} {A : Around} {E : Value → Shared → Prop} {s : Shared} {env : Env}

/-- what the outer source must bring -/
def TwoOk (prog : Program) (w : World) (A : Around) (env : Env) (i1 : Expr) (x : Str) (scope : Scope) (cl : List (Str × Addr)) (wr : List Addr) (B : Nat) (G : Value → List Value → Prop) (s₁ : Shared) (l : Addr) (items : Array Value) : Prop :=
  s₁.heap.IsList l items ∧ l ∉ wr ∧ (∀ b ∈ wr, ∃ o, s₁.heap.get? b = some o) ∧ items.size * B ≤ sizeLine ∧
  (∀ C v s₃ m₃ E' (Q' : Value → Shared → Prop), v ∈ items.toList → s₃.heap.Ns C m₃ → m₃ x = some v → Kp wr s₁.heap s₃.heap → s₁.heap.get? C = none →
      (∀ N ys h' tk, h'.IsList N ys → G v ys.toList → s₃.heap.get? N = none → Kp wr s₃.heap h' → Q' (.ref N) { s₃ with heap := h', toks := tk }) →
      wpAny (model prog w) A (eval i1 (compEnvC scope cl C env)) Q' E' s₃)

theorem comp_two {i0 i1 : Expr} {x y : Str} {px py pe : Pos} {scope : Scope} {cl : List (Str × Addr)} {pos : Pos} {wr : List Addr} {Q : Value → Shared → Prop} (B : Nat) (G : Value → List Value → Prop)
    (hh : A.handled = none) (hclos : closureFor scope env = pure cl) (hcell : ∀ y ∈ scope.names, y.2 ≠ .cell) (hkind : scope.kind = .function)
    (hnames : ∀ y ∈ scope.names, y.2 = .local → scope.names.lookup y.1 = some .local) (hx : scope.names.lookup x = some .local) (hy : scope.names.lookup y = some .local) (hd : (y == ("__debug__" : Str)) = false)
    (hfold : ∀ C v, foldedSetIterable i1 (compEnvC scope cl C env) v = pure v) (hB : ∀ v ys, G v ys → ys.length ≤ B)
    (h : wpAny (model prog w) A (eval i0 env) (fun v s₁ => ∃ l items, v = .ref l ∧ TwoOk prog w A env i1 x scope cl wr B G s₁ l items ∧
      ∀ D ys yss h' tk, s₁.heap.get? D = none → h'.PlainList D ys → Paired G items.toList yss → ys.toList = yss.flatten → Kp wr s₁.heap h' → Q (.ref D) { s₁ with heap := h', toks := tk }) E s)
    (hs : ∀ x, foldedSetIterable i0 env x = pure x := by intro _; rfl) :
    wpAny (model prog w) A (eval (.ListComp (.Name y pe) [⟨.Name x px, i0, [], 0⟩, ⟨.Name y py, i1, [], 0⟩] scope pos) env) Q E s := by
  rw [eval_ListComp]
  refine wpAny_comprehension_free (use := none) rfl hs hclos hkind hnames (wpAny_mono h (fun v s₁ h₁ => ?_) fun _ _ e => e)
  obtain ⟨l, items, rfl, ⟨hl, hlw, hwr, hsz, hin⟩, hQ⟩ := h₁
  refine wpAny_pyIter_list hl ?_
  refine comp_two_block (h0 := s₁.heap) (wr := wr) (B := B) G (RR := fun acc C => compPost (model prog w) A E none Q acc C) hh hcell hkind hx hy hd (fun b o e => Heap.get?_push_of_some _ e) (Heap.get?_none_of_le (Nat.le_refl _)) ⟨_, Heap.get?_push_size _ rfl, rfl, rfl⟩ hl hlw hwr hfold hB hsz hin ?_
  intro D C h' tk m' ys yss hD hC hDC hn hpl hp hys K
  refine ⟨m', hn, fun h'' hs'' => hQ D ys yss h'' tk hD ?_ hp hys (K.step fun b o hb e => (hs''.2 b ?_).trans e)⟩
  · exact hpl.at fun o e => (hs''.2 _ hDC).trans e
  · rintro rfl
    obtain ⟨q, hq⟩ := hb
    rw [hC] at hq
    cases hq

theorem comp_two_asgn {i0 i1 : Expr} {x y z : Str} {px py pe pz spos : Pos} {scope : Scope} {cl : List (Str × Addr)} {pos : Pos} {Q : Flow → Shared → Prop} {m : Str → Option Value} (B : Nat) (G : Value → List Value → Prop)
    (hsw : swapsWith (.ListComp (.Name y pe) [⟨.Name x px, i0, [], 0⟩, ⟨.Name y py, i1, [], 0⟩] scope pos) (some (.Name z pz)) spos.line env = pure true)
    (hh : A.handled = none) (hclos : closureFor scope env = pure cl) (hcell : ∀ y ∈ scope.names, y.2 ≠ .cell) (hkind : scope.kind = .function)
    (hnames : ∀ y ∈ scope.names, y.2 = .local → scope.names.lookup y.1 = some .local) (hx : scope.names.lookup x = some .local) (hy : scope.names.lookup y = some .local) (hd : (y == ("__debug__" : Str)) = false)
    (hz : env.kindOf z = some .local) (hp : (env.scope.kind == .class || (env.scope.kind == .module && env.locals != env.globals)) = false)
    (hfold : ∀ C v, foldedSetIterable i1 (compEnvC scope cl C env) v = pure v) (hB : ∀ v ys, G v ys → ys.length ≤ B)
    (h : wpAny (model prog w) A (eval i0 env) (fun v s₁ => ∃ l items, v = .ref l ∧ s₁.heap.Ns env.locals m ∧ TwoOk prog w A env i1 x scope cl [] B G s₁ l items ∧
      ∀ D ys yss h' tk, s₁.heap.get? D = none → h'.PlainList D ys → Paired G items.toList yss → ys.toList = yss.flatten → h'.Ns env.locals (fun q => if q = z then some (.ref D) else m q) →
        (∀ b o, b ≠ env.locals → s₁.heap.get? b = some o → h'.get? b = some o) → Q .next { s₁ with heap := h', toks := tk }) E s)
    (hs : ∀ x, foldedSetIterable i0 env x = pure x := by intro _; rfl) :
    wpAny (model prog w) A (exec (.Assign [.Name z pz] (.ListComp (.Name y pe) [⟨.Name x px, i0, [], 0⟩, ⟨.Name y py, i1, [], 0⟩] scope pos) spos) env) Q E s := by
  rw [exec_Assign_Name_used _ _ _ _ hsw]
  refine wpAny_bind (wpAny_standAt (wpAny_bind ?_))
  show wpAny _ A (do let _ ← comprehension (.ListComp (.Name y pe) [⟨.Name x px, i0, [], 0⟩, ⟨.Name y py, i1, [], 0⟩] scope pos) scope env _ (newList []) false (eval i0 env) (some (assign (.Name z pz) env))) _ _ s
  refine wpAny_bind (wpAny_mono (wpAny_comprehension_free (use := some (assign (.Name z pz) env)) (Q := fun _ s' => Q .next s') rfl hs hclos hkind hnames
    (wpAny_mono h (fun v s₁ h₁ => ?_) fun _ _ e => e)) (fun _ s' hq => wpAny_pure (wpAny_pure hq)) fun _ _ e => e)
  obtain ⟨l, items, rfl, hnm, ⟨hl, hlw, hwr, hsz, hin⟩, hQ⟩ := h₁
  refine wpAny_pyIter_list hl ?_
  refine comp_two_block (h0 := s₁.heap) (wr := []) (B := B) G (RR := fun acc C => compPost (model prog w) A E (some (assign (.Name z pz) env)) (fun _ s' => Q .next s') acc C) hh hcell hkind hx hy hd (fun b o e => Heap.get?_push_of_some _ e) (Heap.get?_none_of_le (Nat.le_refl _)) ⟨_, Heap.get?_push_size _ rfl, rfl, rfl⟩ hl hlw hwr hfold hB hsz hin ?_
  intro D C h' tk m' ys yss hD hC hDC hn hpl hp' hys K
  have hLC : env.locals ≠ C := by rintro rfl; obtain ⟨o, _, _, ho, _⟩ := hnm; rw [hC] at ho; cases ho
  have hLD : env.locals ≠ D := by rintro rfl; obtain ⟨o, _, _, ho, _⟩ := hnm; rw [hD] at ho; cases ho
  show wpAny _ A (assign (.Name z pz) env (.ref D)) _ _ _
  refine wpAny_assign_Name (wpAny_storeName_local hz (hnm.at' fun o e => K.1 _ o (by simp) e) (fun h₂ hn₂ hs₂ => ?_) hp)
  refine ⟨m', hn.sameBut hs₂ (Ne.symm hLC), fun h₃ hs₃ => hQ D ys yss h₃ _ hD ?_ hp' hys (hn₂.sameBut hs₃ hLC) fun b o hb e => (hs₃.2 b ?_).trans ((hs₂.2 b hb).trans (K.1 b o (by simp) e))⟩
  · exact (hpl.at fun o e => (hs₂.2 _ (Ne.symm hLD)).trans e).at fun o e => (hs₃.2 _ hDC).trans e
  · rintro rfl
    rw [hC] at e
    cases e
end
end Mine
end

/-! ## MNum -/
section
open PySem PySem.W PyProof.Rows PySem.Calls
namespace Mine

def num (x : Int) : Nat := if x.fmod 3 = 1 then x.natAbs % 262144 * 64 + 39 else x.natAbs % 262144
def row0 : List Nat := [7, 103, 64, 39, 5, 2535, 39]

theorem abs_mod (x : Int) : (if x < 0 then -x else x).fmod 262144 = ((x.natAbs % 262144 : Nat) : Int) := by
  rw [Int.fmod_eq_emod_of_nonneg _ (by decide)]
  split <;> omega

theorem ints_mem {vs : List Value} {ks : List Int} (h : IntsAre vs ks) {v : Value} (hv : v ∈ vs) : ∃ k t, v = .int k t := by
  induction h with
  | nil => cases hv
  | cons n t _ ih =>
    rcases List.mem_cons.mp hv with rfl | hv
    · exact ⟨n, t, rfl⟩
    · exact ih hv

theorem ints_num : ∀ {vs ys : List Value} {ks : List Int}, IntsAre vs ks → Paired (fun v y => ∀ k t, v = Value.int k t → ∃ u, y = Value.int ((num k : Nat) : Int) u) vs ys → IntsAre ys (zs (ks.map num))
  | _, _, _, .nil, .nil => .nil
  | _, _, _, .cons k t h, .cons q p => by
    obtain ⟨u, rfl⟩ := q _ _ rfl
    exact .cons _ _ (ints_num h p)

theorem ints_app {vs ws : List Value} {ks js : List Int} (h : IntsAre vs ks) (h' : IntsAre ws js) : IntsAre (vs ++ ws) (ks ++ js) := by
  induction h with
  | nil => exact h'
  | cons n t _ ih => exact .cons _ _ ih

set_option maxHeartbeats 4000000 in
theorem num_call {w : World} {A : Around} {E : Value → Shared → Prop} {Q : Value → Shared → Prop} {s : Shared} {mg mb : Str → Option Value} {f : Addr} {l : Addr} {items : Array Value} {ks : List Int}
    (hh : A.handled = none) (hroom : A.depth + 1 < recursionLimit) (T : Facts mg mb s.heap) (hf : mg (recAt 6).name = some (.ref f))
    (hl : s.heap.IsList l items) (hI : IntsAre items.toList ks) (hsz : ks.length ≤ 1000)
    (hok : ∀ N ys h' tk, h'.PlainList N ys → IntsAre ys.toList (zs (row0 ++ ks.map num)) → s.heap.get? N = none → (∀ b o, s.heap.get? b = some o → h'.get? b = some o) → Q (.ref N) { s with heap := h', toks := tk }) :
    wpAny (model pg w) A (call (.ref f) [.ref l]) Q E s := by
  refine call1 (x := "numbers") (by omega) T (by simp) hf (fun _ _ _ => rfl) rfl fun h₁ cd F₁ => ?_
  have hisz : items.size = ks.length := by
    have e := hI.length
    simpa using e
  refine wpAny_execs_cons (wpAny_Assign_Name (List_ (args_cons (wpAny_Constant_int (args_cons (wpAny_Constant_int (args_cons (wpAny_Constant_int (args_cons (wpAny_Constant_int (args_cons (wpAny_Constant_int (args_cons (wpAny_Constant_int (args_cons (wpAny_Constant_int (args_nil ?_)))))))))))))))))
  refine newL F₁ (fun N₂ h₂ F₂ hl₂ hN₂ hgN₂ _ hk₂ => ?_) (by rw [sizeLine_eq]; simp)
  obtain ⟨rv, hl₂', hIr⟩ : ∃ rv, h₂.PlainList N₂ rv ∧ IntsAre rv.toList (zs row0) := ⟨_, hl₂, .cons _ _ (.cons _ _ (.cons _ _ (.cons _ _ (.cons _ _ (.cons _ _ (.cons _ _ .nil))))))⟩
  have hrsz : rv.size = 7 := by
    have e := hIr.length
    simpa [row0] using e
  refine stS F₂ fun h₃ F₃ hs₃ => ?_
  have hl₃ : h₃.PlainList N₂ rv := hl₂'.at fun o e => (hs₃.2 _ hN₂).trans e
  refine wpAny_execs_cons (wpAny_Return_some (wpAny_BinOp (nmL F₃.ns (v := .ref N₂) rfl ?_)))
  refine comp_list (l := l) (items := items) (fun _ => true) (fun v y => ∀ k t, v = Value.int k t → ∃ u, y = Value.int ((num k : Nat) : Int) u) (by exact hh) (closureFor_none (by decide)) (by decide) rfl (by decide) rfl
    (fun Q' hq => nmL F₃.ns (v := .ref l) rfl hq) (hl.at fun o e => F₃.keep _ o e) (by rw [sizeLine_eq]; omega) ?_ ?_ ?_
  · intro C v s₄ m₄ E' _ _ _ _
    exact wpAny_tests_nil ⟨rfl, Keeps.refl _⟩
  · intro C v s₄ m₄ E' hv _ hn hm hk
    obtain ⟨k, t, rfl⟩ := ints_mem hI hv
    have T₄ : Facts mg mb s₄.heap := T.keeps fun b o e => hk b o (F₃.keep b o e)
    refine IfExp_ (wpAny_isTrue_Compare1 (wpAny_BinOp (nmL hn hm (wpAny_Constant_int (mod_int' (by decide) (wpAny_Constant_int (eq_int (wpAny_truthy_bool ?_))))))))
    by_cases h3 : k.fmod 3 = 1
    · rw [if_pos (by simpa using h3)]
      refine wpAny_BinOp (wpAny_BinOp (wpAny_BinOp (Call_ (nmB (s := { s₄ with toks := _ }) T₄ (by simp) Boot.«abs» (PyProof.Rows.callWith_builtin1 (args_cons (nmL (s := { s₄ with toks := _ }) hn hm (args_nil (call_abs_int fun u tk => ?_)))))))))
      refine wpAny_Constant_int (mod_int' (by decide) (wpAny_Constant_int (mul_int (wpAny_Constant_int (add_int ⟨?_, ?_⟩)) (IntMulOk.of_right (by decide)))))
      · intro k' t' e
        cases e
        rw [abs_mod, num, if_pos h3]
        exact ⟨_, rfl⟩
      · exact Keeps.of fun _ _ e => e
    · rw [if_neg (by simpa using h3)]
      refine wpAny_BinOp (Call_ (nmB (s := { s₄ with toks := _ }) T₄ (by simp) Boot.«abs» (PyProof.Rows.callWith_builtin1 (args_cons (nmL (s := { s₄ with toks := _ }) hn hm (args_nil (call_abs_int fun u tk => ?_)))))))
      refine wpAny_Constant_int (mod_int' (by decide) ⟨?_, ?_⟩)
      · intro k' t' e
        cases e
        rw [abs_mod, num, if_neg h3]
        exact ⟨_, rfl⟩
      · exact Keeps.of fun _ _ e => e
  · intro D h₄ tk₄ ys hD hpl hpair hk₄
    rw [filter_tt] at hpair
    have hI2 := ints_num hI hpair
    have hysz : ys.size = ks.length := by
      have e := hI2.length
      simpa using e
    have F₄ : Fr s.heap s.heap.objs.size h₄ _ := ⟨F₃.ns.keeps hk₄, fun b o e => hk₄ b o (F₃.keep b o e), F₃.above⟩
    refine addLF F₄ (hl₃.isList.at fun o e => hk₄ _ o e) hpl.isList (fun N h₅ F₅ hl₅ hN₅ hgN₅ _ hk₅ => ?_) (by rw [sizeLine_eq, hrsz, hysz]; omega)
    refine hok N _ h₅ _ hl₅ ?_ hgN₅ F₅.keep
    rw [Array.toList_append, zs, List.map_append]
    exact ints_app hIr hI2
end Mine
end

/-! ## MLaw -/
section
open PySem PySem.W PyProof.Rows PySem.Calls
namespace Mine

def hiD (n : Nat) : List Nat := if n < 64 then [] else hi (n / 64)
theorem octs_eq (n : Nat) : octs n = hiD n ++ [n % 64] := by
  unfold octs hiD
  by_cases h : n < 64
  · simp [h, Nat.mod_eq_of_lt h]
  · simp [h]
theorem parse_more (cs : List Nat) : parse cs = more 0 cs := by
  cases cs with
  | nil => rfl
  | cons b r => simp [parse, more]
theorem more_hi (n : Nat) (r : List Nat) : more 0 (hi n ++ r) = more n r := by
  induction n using Nat.strongRecOn generalizing r with
  | ind n ih =>
    by_cases h : n < 64
    · rw [hi_small h]
      have : ¬ n + 64 < 64 := by omega
      simp only [more, List.singleton_append, if_neg this]
      rw [show 0 * 64 + (n + 64) % 64 = n from by omega]
    · rw [hi_big h, List.append_assoc, ih (n / 64) (by omega)]
      have h1 : ¬ n % 64 + 64 < 64 := by omega
      have h2 : n / 64 * 64 + (n % 64 + 64) % 64 = n := by omega
      simp only [more, List.singleton_append, if_neg h1, h2]
theorem parse_octs (n : Nat) (r : List Nat) : parse (octs n ++ r) = some (n, r) := by
  rw [parse_more]
  unfold octs
  by_cases h : n < 64
  · simp [h, more, Nat.mod_eq_of_lt h]
  · have h1 : n % 64 < 64 := by omega
    have h2 : n / 64 * 64 + n % 64 = n := by omega
    rw [if_neg h, List.append_assoc, more_hi]
    simp [more, h1, h2]
theorem parse_hiD (n : Nat) : parse (hiD n) = none := by
  unfold hiD
  by_cases h : n < 64
  · simp [h, parse]
  · rw [if_neg h, parse_more]
    have := more_hi (n / 64) []
    rw [List.append_nil] at this
    rw [this]
    rfl

abbrev cells (ds : List Nat) : List Nat := ds.flatMap octs

theorem rd_cells (p : List Nat) {t ns : List Nat} (h : RdAll t ns) : RdAll (cells p ++ t) (p ++ ns) := by
  induction p with
  | nil => exact h
  | cons n p ih =>
    rw [cells, List.flatMap_cons, List.append_assoc]
    exact .cons (parse_octs n _) ih
theorem rd_nil : RdAll [] [] := .nil rfl
theorem rd_piece (p : List Nat) (n : Nat) : RdAll (cells p ++ hiD n) p := by
  have := rd_cells p (RdAll.nil (parse_hiD n))
  rwa [List.append_nil] at this
theorem rd_rest (p : List Nat) : RdAll (cells p) p := by
  have := rd_cells p rd_nil
  rwa [List.append_nil, List.append_nil] at this
theorem rd_tick (p : List Nat) {n : Nat} (h : n % 64 = 39) : RdAll (cells p ++ hiD n ++ [39]) (p ++ [n]) := by
  have := rd_cells p (rd_rest [n])
  have e : cells [n] = hiD n ++ [39] := by rw [← h, ← octs_eq]; simp [cells]
  rw [e] at this
  rwa [List.append_assoc]

theorem hi_range (n : Nat) : ∀ c ∈ hi n, 64 ≤ c ∧ c < 128 := by
  induction n using Nat.strongRecOn with
  | ind n ih =>
    by_cases h : n < 64
    · rw [hi_small h]
      simp
      omega
    · rw [hi_big h]
      intro c hc
      rcases List.mem_append.mp hc with h1 | h1
      · exact ih (n / 64) (by omega) c h1
      · simp at h1
        omega
theorem hiD_range (n : Nat) : ∀ c ∈ hiD n, 64 ≤ c ∧ c < 128 := by
  unfold hiD
  by_cases h : n < 64
  · simp [h]
  · rw [if_neg h]; exact hi_range _
theorem octs_128 (n : Nat) : ∀ c ∈ octs n, c < 128 := by
  rw [octs_eq]
  intro c hc
  rcases List.mem_append.mp hc with h1 | h1
  · exact (hiD_range n c h1).2
  · simp at h1; omega
theorem hiD_39 (n : Nat) : 39 ∉ hiD n := fun h => by have := hiD_range n 39 h; omega
theorem octs_39 {n : Nat} (h : n % 64 ≠ 39) : 39 ∉ octs n := by
  rw [octs_eq]
  intro hc
  rcases List.mem_append.mp hc with h1 | h1
  · exact hiD_39 n h1
  · simp at h1; omega
theorem cells_39 {p : List Nat} (h : ∀ q ∈ p, q % 64 ≠ 39) : 39 ∉ cells p := by
  intro hc
  obtain ⟨n, hn, h1⟩ := List.mem_flatMap.mp hc
  exact octs_39 (h n hn) h1
theorem cells_128 (p : List Nat) : ∀ c ∈ cells p, c < 128 := by
  intro c hc
  obtain ⟨n, _, h1⟩ := List.mem_flatMap.mp hc
  exact octs_128 n c h1
theorem octs_len {n : Nat} (h : n < 16777216) : (octs n).length ≤ 4 := by
  unfold octs
  by_cases h1 : n < 64
  · simp [h1]
  · rw [if_neg h1]
    by_cases h2 : n / 64 < 64
    · rw [hi_small h2]; simp
    · rw [hi_big h2]
      by_cases h3 : n / 64 / 64 < 64
      · rw [hi_small h3]; simp
      · rw [hi_big h3, hi_small (by omega)]; simp
theorem cells_len {p : List Nat} (h : ∀ q ∈ p, q < 16777216) : (cells p).length ≤ 4 * p.length := by
  induction p with
  | nil => simp
  | cons n p ih =>
    have h1 := octs_len (h n (by simp))
    have h2 := ih fun q hq => h q (by simp [hq])
    simp only [cells, List.flatMap_cons, List.length_append, List.length_cons] at *
    omega

/-- a list's first tick -/
theorem first_tick (ds : List Nat) : (∀ q ∈ ds, q % 64 ≠ 39) ∨ ∃ p n r, ds = p ++ n :: r ∧ (∀ q ∈ p, q % 64 ≠ 39) ∧ n % 64 = 39 := by
  induction ds with
  | nil => left; simp
  | cons d ds ih =>
    by_cases h : d % 64 = 39
    · right; exact ⟨[], d, ds, rfl, by simp, h⟩
    · rcases ih with ih | ⟨p, n, r, rfl, h1, h2⟩
      · left
        intro q hq
        rcases List.mem_cons.mp hq with rfl | hq
        · exact h
        · exact ih q hq
      · right
        refine ⟨d :: p, n, r, rfl, ?_, h2⟩
        intro q hq
        rcases List.mem_cons.mp hq with rfl | hq
        · exact h
        · exact h1 q hq
theorem cut_cells {p r : List Nat} {n : Nat} (h1 : ∀ q ∈ p, q % 64 ≠ 39) (h2 : n % 64 = 39) : cut1 (cells (p ++ n :: r)) = some (cells p ++ hiD n, cells r) := by
  have e : cells (p ++ n :: r) = (cells p ++ hiD n) ++ 39 :: cells r := by
    rw [cells, List.flatMap_append, List.flatMap_cons, octs_eq, h2]
    simp
  rw [e]
  refine cut1_of fun h => ?_
  rcases List.mem_append.mp h with h | h
  · exact cells_39 h1 h
  · exact hiD_39 n h

def segOf (q : List Nat × Nat) : List Nat := cells q.1 ++ hiD q.2
def pairOf : Ans → List (List Nat)
  | .cut a b _ => [a, b]
  | .fin _ => []

theorem told_cells (k : Nat) : ∀ ds : List Nat, ds.length ≤ k → ∃ (prs : List (List Nat × Nat)) (rest : List Nat) (cuts : List Ans), ds = prs.flatMap (fun q : List Nat × Nat => q.1 ++ [q.2]) ++ rest ∧ (∀ q ∈ prs, q.2 % 64 = 39 ∧ ∀ d ∈ q.1, d % 64 ≠ 39) ∧
    told (cells ds) = cuts ++ [.fin (cells rest)] ∧ (∀ a ∈ cuts, ∃ x y z, a = Ans.cut x y z) ∧ cuts.flatMap pairOf = prs.map segOf := by
  induction k with
  | zero =>
    intro ds h
    obtain rfl : ds = [] := List.length_eq_zero_iff.mp (by omega)
    exact ⟨[], [], [], rfl, by simp, by rw [told_fin (by simp [split2, cut1])]; rfl, by simp, rfl⟩
  | succ k ih =>
    intro ds h
    have none : (split2 (cells ds)).length ≤ 2 → ∃ (prs : List (List Nat × Nat)) (rest : List Nat) (cuts : List Ans), ds = prs.flatMap (fun q : List Nat × Nat => q.1 ++ [q.2]) ++ rest ∧ (∀ q ∈ prs, q.2 % 64 = 39 ∧ ∀ d ∈ q.1, d % 64 ≠ 39) ∧
        told (cells ds) = cuts ++ [.fin (cells rest)] ∧ (∀ a ∈ cuts, ∃ x y z, a = Ans.cut x y z) ∧ cuts.flatMap pairOf = prs.map segOf :=
      fun h => ⟨[], ds, [], rfl, by simp, by rw [told_fin h]; rfl, by simp, rfl⟩
    rcases first_tick ds with h1 | ⟨p, n, r, rfl, hp, hn⟩
    · exact none (by rw [split2, cut1_none.mpr (cells_39 h1)]; simp)
    · rcases first_tick r with h2 | ⟨p2, n2, r2, rfl, hp2, hn2⟩
      · exact none (by rw [split2, cut_cells hp hn]; simp [cut1_none.mpr (cells_39 h2)])
      · obtain ⟨prs, rest, cuts, e1, e2, e3, e4, e5⟩ := ih r2 (by simp at h; omega)
        refine ⟨(p, n) :: (p2, n2) :: prs, rest, .cut (segOf (p, n)) (segOf (p2, n2)) (cells r2) :: cuts, ?_, ?_, ?_, ?_, ?_⟩
        · rw [e1]; simp
        · intro q hq
          rcases List.mem_cons.mp hq with rfl | hq
          · exact ⟨hn, hp⟩
          · rcases List.mem_cons.mp hq with rfl | hq
            · exact ⟨hn2, hp2⟩
            · exact e2 q hq
        · rw [told_cut (a := segOf (p, n)) (b := segOf (p2, n2)) (c := cells r2) (by rw [split2, cut_cells hp hn]; simp only [cut_cells hp2 hn2, segOf]), e3]
          rfl
        · intro a ha
          rcases List.mem_cons.mp ha with rfl | ha
          · exact ⟨_, _, _, rfl⟩
          · exact e4 a ha
        · rw [List.flatMap_cons, e5]; rfl

/-- a list without its first m ticks -/
def rem : Nat → List Nat → List Nat
  | _, [] => []
  | m, d :: ds => if d % 64 = 39 ∧ 0 < m then rem (m - 1) ds else d :: rem m ds
theorem rem_plain {p : List Nat} (h : ∀ q ∈ p, q % 64 ≠ 39) (m : Nat) (r : List Nat) : rem m (p ++ r) = p ++ rem m r := by
  induction p with
  | nil => rfl
  | cons d p ih =>
    have h1 := h d (by simp)
    rw [List.cons_append, rem, if_neg (fun q => h1 q.1), ih fun q hq => h q (by simp [hq])]
    rfl
theorem rem_zero (r : List Nat) : rem 0 r = r := by
  induction r with
  | nil => rfl
  | cons d r ih => rw [rem, if_neg (by omega), ih]
theorem rem_prs {prs : List (List Nat × Nat)} (rest : List Nat) (h : ∀ q ∈ prs, q.2 % 64 = 39 ∧ ∀ d ∈ q.1, d % 64 ≠ 39) :
    rem prs.length (prs.flatMap (fun q : List Nat × Nat => q.1 ++ [q.2]) ++ rest) = prs.flatMap (·.1) ++ rest := by
  induction prs with
  | nil => exact rem_zero rest
  | cons q prs ih =>
    have h1 := h q (by simp)
    rw [List.flatMap_cons, List.append_assoc, List.append_assoc, rem_plain h1.2, List.flatMap_cons, List.append_assoc]
    congr 1
    rw [List.singleton_append, rem, if_pos ⟨h1.1, by simp⟩]
    exact ih fun q hq => h q (by simp [hq])

/-- the places of the first m ticks are left out -/
theorem kept_rem (f : Nat → Nat) : ∀ (ds : List Nat) (off m : Nat), (∀ i, i < ds.length → ds[i]? = some (f (off + i))) →
    ((List.range' off ds.length).filter (fun p => decide (p ∉ ((List.range' off ds.length).filter (fun p => decide (f p % 64 = 39))).take m))).map f = rem m ds
  | [], _, _, _ => rfl
  | d :: ds, off, m, h => by
    have h0 : f off = d := by
      have := h 0 (by simp)
      simpa using this.symm
    have ih := fun m => kept_rem f ds (off + 1) m fun i hi => by
      have := h (i + 1) (by simp; omega)
      rw [show off + 1 + i = off + (i + 1) from by omega]
      simpa using this
    have out : ∀ m, off ∉ ((List.range' (off + 1) ds.length).filter (fun p => decide (f p % 64 = 39))).take m := fun m q => by
      have := (List.mem_filter.mp (List.mem_of_mem_take q)).1
      rw [List.mem_range'_1] at this
      omega
    rw [List.length_cons, List.range'_succ, rem]
    by_cases ht : f off % 64 = 39
    · rw [List.filter_cons (p := fun p => decide (f p % 64 = 39)), if_pos (by simpa using ht)]
      cases m with
      | zero =>
        rw [if_neg (by omega), ← ih 0]
        simp [h0]
      | succ m =>
        rw [if_pos ⟨h0 ▸ ht, by omega⟩, List.take_succ_cons, List.filter_cons, if_neg (by simp), Nat.add_sub_cancel, ← ih m]
        congr 1
        apply List.filter_congr
        intro p hp
        rw [List.mem_range'_1] at hp
        have : p ≠ off := by omega
        simp [this]
    · rw [List.filter_cons (p := fun p => decide (f p % 64 = 39)), if_neg (by simpa using ht), if_neg (fun q => ht (h0.symm ▸ q.1)), List.filter_cons, if_pos (by simpa using out m), List.map_cons, ih m, h0]
end Mine
end

/-! ## MCmp -/
section
open PySem PySem.W PyProof.Rows PySem.Calls
namespace Mine

def dat : Ans → PyData
  | .cut a b c => .list [.str (stOf a), .str (stOf b), .str (stOf c)]
  | .fin c => .tuple [.none, .none, .str (stOf c)]
def AnsOk : Ans → Prop
  | .cut a b c => (∀ x ∈ a, x < 128) ∧ (∀ x ∈ b, x < 128) ∧ (∀ x ∈ c, x < 128)
  | .fin c => ∀ x ∈ c, x < 128
theorem strOk_of {a : List Nat} (h : ∀ x ∈ a, x < 128) : PyData.canLay0 (.str (stOf a)) = true := by
  simp only [PyData.canLay0]
  show (stOf a).cps.all _ = true
  unfold stOf
  rw [Array.all_eq_true_iff_forall_mem]
  intro x hx
  have := h x (by simpa using hx)
  simp
  omega
theorem ansOk_lay {a : Ans} (h : AnsOk a) : (dat a).canLay0 = true := by
  cases a with
  | cut a b c =>
    simp only [dat, PyData.canLay0, PyData.canLayAll0, Bool.and_true, Bool.and_eq_true]
    exact ⟨strOk_of h.1, strOk_of h.2.1, strOk_of h.2.2⟩
  | fin c =>
    simp only [dat, PyData.canLay0, PyData.canLayAll0, Bool.and_true, Bool.true_and]
    exact strOk_of h
theorem dats_lay : ∀ {as : List Ans}, (∀ a ∈ as, AnsOk a) → PyData.canLayAll0 (as.map dat) = true
  | [], _ => rfl
  | a :: as, h => by
    simp only [List.map_cons, PyData.canLayAll0, Bool.and_eq_true]
    exact ⟨ansOk_lay (h a (by simp)), dats_lay fun b hb => h b (by simp [hb])⟩
theorem dats_depth : ∀ as : List Ans, PyData.depthAll (as.map dat) ≤ 1
  | [] => by simp [PyData.depthAll]
  | a :: as => by
    have := dats_depth as
    cases a <;> simp [dat, PyData.depthAll, PyData.depth] <;> omega
theorem told_ok {cs : List Nat} : (∀ x ∈ cs, x < 128) → ∀ a ∈ told cs, AnsOk a := by
  generalize hk : cs.length = k
  induction k using Nat.strongRecOn generalizing cs with
  | ind k ih =>
    intro h a ha
    by_cases h2 : (split2 cs).length ≤ 2
    · rw [told_fin h2] at ha
      obtain rfl := List.mem_singleton.mp ha
      exact h
    · have : ∃ x y z, split2 cs = [x, y, z] := by
        unfold split2 at h2 ⊢
        split at h2
        · simp at h2
        · split at h2
          · simp at h2
          · simp
      obtain ⟨x, y, z, e⟩ := this
      have e' := split2_sub e
      rw [told_cut e] at ha
      have hx : ∀ q ∈ x, q < 128 := fun q hq => h q (by rw [e']; simp [hq])
      have hy : ∀ q ∈ y, q < 128 := fun q hq => h q (by rw [e']; simp [hq])
      have hz : ∀ q ∈ z, q < 128 := fun q hq => h q (by rw [e']; simp [hq])
      rcases List.mem_cons.mp ha with rfl | ha
      · exact ⟨hx, hy, hz⟩
      · exact ih z.length (by rw [← hk, e']; simp; omega) rfl hz a ha

theorem ans_reads {h : Heap} {v : Value} {a : Ans} (q : AnsAt h [] v a) : ∃ as, Reads h v (dat a) as := by
  cases a with
  | cut a b c =>
    obtain ⟨X, t1, t2, t3, rfl, _, o, ho, hc, n, hd⟩ := q
    exact ⟨_, .list ho hc hd (.cons (.str _ _) (.cons (.str _ _) (.cons (.str _ _) .nil)))⟩
  | fin c =>
    obtain ⟨X, t, rfl, _, o, ho, hc, n, hd⟩ := q
    exact ⟨_, .tuple ho hc hd (.cons .none (.cons .none (.cons (.str _ _) .nil)))⟩
theorem anss_reads {h : Heap} : ∀ {vs : List Value} {as : List Ans}, Paired (AnsAt h []) vs as → ∃ bs, ReadsAll h vs (as.map dat) bs
  | _, _, .nil => ⟨_, .nil⟩
  | _, _, .cons q p => by
    obtain ⟨x, hx⟩ := ans_reads q
    obtain ⟨y, hy⟩ := anss_reads p
    exact ⟨_, .cons hx hy⟩

section
variable {prog : Program} {w : World} {A : Around} {E : Value → Shared → Prop} {s : Shared} {Q : Value → Shared → Prop}
theorem ne_told {N M : Addr} {xs ys : Array Value} {as : List Ans} (hN : s.heap.IsList N xs) (hM : s.heap.IsList M ys) (px : Paired (AnsAt s.heap []) xs.toList as) (py : Paired (AnsAt s.heap []) ys.toList as)
    (hok : ∀ a ∈ as, AnsOk a) (hu : A.units + 64 < cLine) (h : Q (.bool false) s) : wpAny (model prog w) A (compareOp .NotEq (.ref N) (.ref M)) Q E s := by
  obtain ⟨b1, r1⟩ := anss_reads px
  obtain ⟨b2, r2⟩ := anss_reads py
  obtain ⟨o1, h1, c1, n1, d1⟩ := id hN
  obtain ⟨o2, h2, c2, n2, d2⟩ := id hM
  have hl : PyData.canLay0 (.list (as.map dat)) = true := by simp only [PyData.canLay0]; exact dats_lay hok
  have hs : SeqAt.shaped (.list (as.map dat)) = true := by
    unfold SeqAt.shaped
    rw [hl, Bool.true_and, decide_eq_true_eq]
    have := dats_depth as
    simp only [PyData.depth]
    omega
  refine SeqAt.compareNe_shaped (.list h1 c1 d1 r1) (.list h2 c2 d2 r2) hs hs hu ?_
  rw [SeqAt.eqv_refl _ hl]
  exact h

theorem ints_readsAll {h : Heap} {vs : List Value} {ns : List Int} (hi : IntsAre vs ns) : ReadsAll h vs (ns.map .int) [] := by
  induction hi with
  | nil => exact .nil
  | cons n t _ ih => exact .cons (bs := []) (.int n t) ih
theorem ints_lay (ns : List Int) : PyData.canLayAll0 (ns.map .int) = true := by
  induction ns with
  | nil => rfl
  | cons n ns ih => simp only [List.map_cons, PyData.canLayAll0, PyData.canLay0, Bool.true_and]; exact ih
theorem ints_any (ns : List Int) (k : Int) : ((ns.map PyData.int).any fun y => PyData.eqv y (.int k)) = decide (k ∈ ns) := by
  rw [List.any_map, Bool.eq_iff_iff, List.any_eq_true, decide_eq_true_eq]
  constructor
  · rintro ⟨x, hx, e⟩
    simp [PyData.eqv] at e
    exact e ▸ hx
  · intro hk
    exact ⟨k, hk, by simp [PyData.eqv]⟩
theorem notIn_ints {l : Addr} {items : Array Value} {ns : List Int} {k : Int} {t : Tok} (hl : s.heap.IsList l items) (hi : IntsAre items.toList ns) (hu : A.units + 64 < cLine)
    (h : Q (.bool (!decide (k ∈ ns))) s) : wpAny (model prog w) A (compareOp .NotIn (.int k t) (.ref l)) Q E s := by
  obtain ⟨o, ho, hc, n, hd⟩ := id hl
  refine SeqAt.notIn_list_reads (.list ho hc hd (ints_readsAll hi)) (.int k t) (ints_lay ns) rfl ?_ ?_
  · have := Nat.min_le_right (PyData.depthAll (ns.map .int)) (PyData.int k).depth
    simp only [PyData.depth] at this ⊢
    omega
  · rw [ints_any]; exact h

theorem sl_tail {value slice : Expr} {l : Addr} {items : Array Value} {vl vu : Value} {lo hi : Option Int} (hl : s.heap.IsList l items) (pl : IsPart vl lo) (pu : IsPart vu hi) (hsz : items.size ≤ sizeLine)
    (h : ∀ N h', h'.PlainList N (slicePick items lo hi none) → s.heap.get? N = none → (∀ b o, s.heap.get? b = some o → h'.get? b = some o) → Q (.ref N) { s with heap := h' })
    (hs : subscripted slice false (.ref l) (.ref s.heap.objs.size) = operate [.ref s.heap.objs.size, .ref l] (getItem (.ref l) (.ref s.heap.objs.size)) := by with_unfolding_all rfl) :
    wpAny (model prog w) A (subscriptTail value slice (.ref l) (.ref s.heap.objs.size)) Q E { s with heap := s.heap.push { cls := .type "slice", data := .fields #[vl, vu, .none] } } := by
  refine tail_any (Heap.IsList.typeIs (s := { s with heap := s.heap.push { cls := .type "slice", data := .fields #[vl, vu, .none] } }) (hl.push _)) list_getitem_lookup
    (wpAny_getItem_list_slice (hl.push _) (Heap.IsSliceOf.new ..) pl pu .none (by simp) ?_ hsz) hs
  refine h _ _ ⟨_, Heap.get?_push_size _ rfl⟩ (Heap.get?_none_of_le ?_) fun b o e => Heap.get?_push_of_some _ (Heap.get?_push_of_some _ e)
  show s.heap.objs.size ≤ (s.heap.push _).objs.size
  rw [Heap.size_push]
  exact Nat.le_succ _
end
end Mine
end

/-! ## MW1 -/
section
open PySem PySem.W PyProof.Rows PySem.Calls
namespace Mine

/-- law's frame: its names, its two cells -/
structure LS (g : Heap) (L : Addr) (h : Heap) (m : Str → Option Value) (c1 c2 : Option Value) : Prop where
  F : Fr g L h m
  c1 : h.IsCell (L + 1) c1
  c2 : h.IsCell (L + 2) c2

abbrev Ow (L X : Addr) : Prop := X ≠ L ∧ X ≠ L + 1 ∧ X ≠ L + 2

theorem LS.keeps {g h h' : Heap} {L : Addr} {m : Str → Option Value} {v1 v2 : Option Value} (S : LS g L h m v1 v2) (hk : ∀ b o, h.get? b = some o → h'.get? b = some o) : LS g L h' m v1 v2 :=
  ⟨⟨S.F.ns.keeps hk, fun b o e => hk b o (S.F.keep b o e), S.F.above⟩, S.c1.keeps hk, S.c2.keeps hk⟩
theorem LS.ow {g h : Heap} {L X : Addr} {m : Str → Option Value} {v1 v2 : Option Value} (S : LS g L h m v1 v2) (hX : h.get? X = none) : Ow L X := by
  refine ⟨fun q => ?_, fun q => ?_, fun q => ?_⟩
  · obtain ⟨_, _, _, ho, _⟩ := S.F.ns; rw [q] at hX; rw [hX] at ho; cases ho
  · obtain ⟨_, ho, _⟩ := S.c1; rw [q] at hX; rw [hX] at ho; cases ho
  · obtain ⟨_, ho, _⟩ := S.c2; rw [q] at hX; rw [hX] at ho; cases ho
theorem LS.old {g h : Heap} {L : Addr} {m : Str → Option Value} {v1 v2 : Option Value} (S : LS g L h m v1 v2) {b : Addr} {o : Obj} (e : g.get? b = some o) : Ow L b := by
  have h1 := Heap.lt_size e
  have h2 := S.F.above
  have h3 : @LT.lt Nat _ b L := Nat.lt_of_lt_of_le h1 h2
  refine ⟨?_, ?_, ?_⟩ <;> intro q <;> (have q' : @Eq Nat b _ := q) <;> omega
theorem n1 (L : Addr) : L + 1 ≠ L := by intro q; have q' : @Eq Nat (L + 1) L := q; omega
theorem n2 (L : Addr) : L + 2 ≠ L := by intro q; have q' : @Eq Nat (L + 2) L := q; omega
theorem n12 (L : Addr) : L + 2 ≠ L + 1 := by intro q; have q' : @Eq Nat (L + 2) (L + 1) := q; omega
theorem LS.stored {g h h' : Heap} {L : Addr} {m m' : Str → Option Value} {v1 v2 : Option Value} (S : LS g L h m v1 v2) (hn : h'.Ns L m') (hk : ∀ b o, b ≠ L → h.get? b = some o → h'.get? b = some o) : LS g L h' m' v1 v2 :=
  ⟨⟨hn, fun b o e => hk b o (S.old e).1 (S.F.keep b o e), S.F.above⟩, let ⟨o, ho, hd⟩ := S.c1; ⟨o, hk _ o (n1 L) ho, hd⟩, let ⟨o, ho, hd⟩ := S.c2; ⟨o, hk _ o (n2 L) ho, hd⟩⟩
theorem LS.set1 {g h h' : Heap} {L : Addr} {m : Str → Option Value} {v1 v2 v : Option Value} (S : LS g L h m v1 v2) (hc : h'.IsCell (L + 1) v) (hs : Heap.SameBut (L + 1) h h') : LS g L h' m v v2 :=
  ⟨⟨S.F.ns.sameBut hs (Ne.symm (n1 L)), fun b o e => (hs.2 b (S.old e).2.1).trans (S.F.keep b o e), S.F.above⟩, hc, S.c2.sameBut hs (n12 L)⟩
theorem LS.set2 {g h h' : Heap} {L : Addr} {m : Str → Option Value} {v1 v2 v : Option Value} (S : LS g L h m v1 v2) (hc : h'.IsCell (L + 2) v) (hs : Heap.SameBut (L + 2) h h') : LS g L h' m v1 v :=
  ⟨⟨S.F.ns.sameBut hs (Ne.symm (n2 L)), fun b o e => (hs.2 b (S.old e).2.2).trans (S.F.keep b o e), S.F.above⟩, S.c1.sameBut hs (Ne.symm (n12 L)), hc⟩

/-- a list of ints that is not law's own -/
def Hd (L : Addr) (h : Heap) (X : Addr) (ns : List Nat) : Prop := ∃ xv, h.IsList X xv ∧ IntsAre xv.toList (zs ns) ∧ Ow L X
theorem Hd.keeps {L : Addr} {h h' : Heap} {X : Addr} {ns : List Nat} (x : Hd L h X ns) (hk : ∀ b o, b ≠ L → b ≠ L + 1 → b ≠ L + 2 → h.get? b = some o → h'.get? b = some o) : Hd L h' X ns :=
  let ⟨xv, hl, hi, ho⟩ := x; ⟨xv, hl.at fun o e => hk X o ho.1 ho.2.1 ho.2.2 e, hi, ho⟩

theorem ints_memN {vs : List Value} {ns : List Nat} (h : IntsAre vs (zs ns)) {v : Value} (hv : v ∈ vs) : ∃ n t, v = .int ((n : Nat) : Int) t ∧ n ∈ ns := by
  induction ns generalizing vs with
  | nil => cases h; cases hv
  | cons n ns ih =>
    cases h with
    | cons _ t h' =>
      rcases List.mem_cons.mp hv with rfl | hv
      · exact ⟨n, t, rfl, by simp⟩
      · obtain ⟨k, u, e, hk⟩ := ih h' hv
        exact ⟨k, u, e, by simp [hk]⟩
theorem ints_flat {f : Nat → List Nat} {G : Value → List Value → Prop} (hG : ∀ (n : Nat) t ys, G (.int (n : Int) t) ys → IntsAre ys (zs (f n))) : ∀ {vs : List Value} {ns : List Nat} {yss : List (List Value)}, IntsAre vs (zs ns) → Paired G vs yss → IntsAre yss.flatten (zs (ns.flatMap f))
  | _, [], _, .nil, .nil => .nil
  | _, n :: ns, _, .cons _ t h, .cons q p => by
    rw [List.flatten_cons, List.flatMap_cons, zs, List.map_append]
    exact ints_app (hG n t _ q) (ints_flat hG h p)

def drawnOf (ks : List Int) : List Nat := row0 ++ (ks.take 5).map num
theorem num_lt (x : Int) : num x < 16777216 := by unfold num; split <;> omega
theorem drawn_lt (ks : List Int) : ∀ n ∈ drawnOf ks, n < 16777216 := by
  intro n hn
  rcases List.mem_append.mp hn with h | h
  · simp only [row0, List.mem_cons, List.not_mem_nil, or_false] at h
    omega
  · obtain ⟨x, _, rfl⟩ := List.mem_map.mp h
    exact num_lt x
theorem drawn_len (ks : List Int) : (drawnOf ks).length ≤ 12 := by
  simp only [drawnOf, List.length_append, List.length_map, List.length_take, row0, List.length_cons, List.length_nil]
  omega

set_option maxHeartbeats 4000000 in
theorem law1 {w : World} {A : Around} {E : Value → Shared → Prop} {Q : Flow → Shared → Prop} {s : Shared} {mg mb : Str → Option Value} {g : Heap} {L a : Addr} {cd : Value} {m : Str → Option Value} {l : Addr} {items : Array Value} {ks : List Int} {v1 v2 : Option Value}
    (hh : A.handled = none) (hroom : A.depth + 3 < recursionLimit) (T : Facts mg mb g) (S : LS g L s.heap m v1 v2) (hms : m "script" = some (.ref l)) (hl : g.IsList l items) (hI : IntsAre items.toList ks) (hsz : ks.length ≤ 63)
    (next : ∀ h' tk m' DR CL, LS g L h' m' (some (.ref DR)) v2 → m' "cells" = some (.ref CL) → Hd L h' DR (drawnOf ks) → Hd L h' CL (cells (drawnOf ks)) →
      wpAny (model pg w) A (execs ((recAt 11).body.drop 2) (envC 11 L a cd)) Q E { s with heap := h', toks := tk }) :
    wpAny (model pg w) A (execs (recAt 11).body (envC 11 L a cd)) Q E s := by
  obtain ⟨f6, o6, _, _, _, d61, d62, d63, _⟩ := T.fn 6 (by simp)
  obtain ⟨f7, o7, _, _, _, d71, d72, d73, _⟩ := T.fn 7 (by simp)
  have hisz : items.size = ks.length := by
    have e := hI.length
    simpa using e
  refine wpAny_execs_cons (wpAny_Assign_Name (Call_ (nmG (T.keeps S.F.keep) d61 (callWith_def d63 (args_cons (Subscript_ (nmL S.F.ns hms (slNS (wpAny_Constant_int ?_)))))))))
  refine sl_tail (s := { s with toks := _ }) (hl.at fun o e => S.F.keep _ o e) .none (.int _ _) (by rw [sizeLine_eq]; omega) fun N₁ h₁ hN₁ hf₁ hk₁ => ?_
  have e5 : slicePick items none (some 5) none = (items.toList.take 5).toArray := slicePick_upto' items 5
  rw [e5] at hN₁
  have S₁ := S.keeps hk₁
  refine args_nil ⟨S₁.F.keep _ _ d62, ?_⟩
  refine num_call (ks := ks.take 5) hh (by omega) (T.keeps S₁.F.keep) d61 hN₁.isList (by simpa using hI.take 5) (by simp; omega) fun N₂ ys h₂ tk₂ hN₂ hI₂ hf₂ hk₂ => ?_
  have S₂ := S₁.keeps hk₂
  have ow₂ := S₁.ow hf₂
  refine wpAny_storeName_cell rfl rfl rfl S₂.c1 fun h₃ hc₃ hs₃ => ?_
  have S₃ := S₂.set1 hc₃ hs₃
  have hD₃ : Hd L h₃ N₂ (drawnOf ks) := ⟨ys, hN₂.isList.extBut hs₃.extBut ow₂.2.1, hI₂, ow₂⟩
  obtain ⟨dv, hdl, hdi, hdo⟩ := id hD₃
  have hdsz : dv.size = (drawnOf ks).length := by
    have e := hdi.length
    simpa using e
  have hdn := drawn_len ks
  refine wpAny_execs_cons (comp_two_asgn (m := m) 4 (fun v ys => ∃ n t, v = Value.int ((n : Nat) : Int) t ∧ n < 16777216 ∧ IntsAre ys (zs (octs n))) (cl := []) rfl hh (closureFor_none (by decide)) (by decide) rfl (by decide) rfl rfl (by decide) rfl rfl (fun _ _ => rfl) ?_ ?_)
  · rintro v ys ⟨n, t, rfl, hn, hi⟩
    have e := hi.length
    have := octs_len hn
    simp at e
    omega
  · refine nmC S₃.c1 ⟨N₂, dv, rfl, S₃.F.ns, ⟨hdl, by simp, by simp, by rw [sizeLine_eq]; omega, ?_⟩, ?_⟩
    · intro C v s₄ m₄ E' Q' hv hn hm K hC hq
      obtain ⟨n, t, rfl, hmem⟩ := ints_memN hdi hv
      have k₄ : ∀ b o, h₃.get? b = some o → s₄.heap.get? b = some o := fun b o e => K.1 b o (by simp) e
      have T₄ : Facts mg mb s₄.heap := T.keeps fun b o e => k₄ b o (S₃.F.keep b o e)
      refine Call_ (nmG T₄ d71 (callWith_def d73 (args_cons (nmL hn hm (args_nil ⟨k₄ _ _ (S₃.F.keep _ _ d72), ?_⟩)))))
      refine oct_call (by omega) T₄ d71 (drawn_lt ks n hmem) fun N ys h' tk hi hl hf hk => ?_
      exact hq N ys h' tk hl ⟨n, t, rfl, drawn_lt ks n hmem, hi⟩ hf (.of hk)
    · intro D ys' yss h₄ tk₄ hD hpl hp hys hn₄ hk₄
      have S₄ := S₃.stored hn₄ hk₄
      refine next h₄ tk₄ _ N₂ D S₄ rfl (hD₃.keeps fun b o h1 _ _ e => hk₄ b o h1 e) ⟨ys', hpl.isList, ?_, S₃.ow hD⟩
      rw [hys]
      refine ints_flat (fun n t ys q => ?_) hdi hp
      obtain ⟨k, u, e, _, hi⟩ := q
      have e1 : ((n : Nat) : Int) = k := by injection e
      have e2 : n = k := by omega
      exact e2 ▸ hi
end Mine
end

/-! ## MW2 -/
section
open PySem PySem.W PyProof.Rows PySem.Calls
namespace Mine

theorem LS.listOw {g h : Heap} {L X : Addr} {m : Str → Option Value} {v1 v2 : Option Value} (S : LS g L h m v1 v2) {o : Obj} {vs : Array Value} {n : Nat} (hX : h.get? X = some o) (hd : o.data = .seq vs n) : Ow L X := by
  refine ⟨fun q => ?_, fun q => ?_, fun q => ?_⟩
  · obtain ⟨_, _, _, ho, hd', _⟩ := S.F.ns; rw [q] at hX; rw [hX] at ho; cases ho; rw [hd] at hd'; cases hd'
  · obtain ⟨_, ho, hd'⟩ := S.c1; rw [q] at hX; rw [hX] at ho; cases ho; rw [hd] at hd'; cases hd'
  · obtain ⟨_, ho, hd'⟩ := S.c2; rw [q] at hX; rw [hX] at ho; cases ho; rw [hd] at hd'; cases hd'

abbrev bads (L : Addr) : List Addr := [L, L + 1, L + 2]
theorem ow_bads {L X : Addr} (h : Ow L X) : X ∉ bads L := by
  simp only [List.mem_cons, List.not_mem_nil, or_false, not_or]
  exact h
theorem bads_ow {L X : Addr} (h : X ∉ bads L) : Ow L X := by
  simp only [List.mem_cons, List.not_mem_nil, or_false, not_or] at h
  exact h

theorem LS.ans {g h : Heap} {L : Addr} {m : Str → Option Value} {v1 v2 : Option Value} (S : LS g L h m v1 v2) {v : Value} {a : Ans} (q : AnsAt h [] v a) : AnsAt h (bads L) v a := by
  cases a with
  | cut a b c =>
    obtain ⟨X, t1, t2, t3, e, _, o, ho, hc, n, hd⟩ := q
    exact ⟨X, t1, t2, t3, e, ow_bads (S.listOw ho hd), o, ho, hc, n, hd⟩
  | fin c =>
    obtain ⟨X, t, e, _, o, ho, hc, n, hd⟩ := q
    exact ⟨X, t, e, ow_bads (S.listOw ho hd), o, ho, hc, n, hd⟩

/-- the answers told -/
def TAt (L : Addr) (h : Heap) (X : Addr) (as : List Ans) : Prop := ∃ xv, h.IsList X xv ∧ Paired (AnsAt h (bads L)) xv.toList as ∧ Ow L X
theorem TAt.keeps {L : Addr} {h h' : Heap} {X : Addr} {as : List Ans} (x : TAt L h X as) (hk : ∀ b o, b ≠ L → b ≠ L + 1 → b ≠ L + 2 → h.get? b = some o → h'.get? b = some o) : TAt L h' X as :=
  let ⟨xv, hl, hp, ho⟩ := x
  ⟨xv, hl.at fun o e => hk X o ho.1 ho.2.1 ho.2.2 e, paired_mono (fun _ _ q => q.keep (fun b o hb e => hk b o (bads_ow hb).1 (bads_ow hb).2.1 (bads_ow hb).2.2 e) fun _ _ hb _ => hb) hp, ho⟩

theorem pair_len : ∀ {cuts : List Ans}, (∀ a ∈ cuts, ∃ x y z, a = Ans.cut x y z) → (cuts.flatMap pairOf).length = 2 * cuts.length
  | [], _ => rfl
  | a :: cuts, h => by
    obtain ⟨x, y, z, rfl⟩ := h a (by simp)
    have := pair_len fun b hb => h b (List.mem_cons_of_mem _ hb)
    simp only [List.flatMap_cons, List.length_append, List.length_cons, pairOf, this, List.length_nil]
    omega
theorem prs_len (prs : List (List Nat × Nat)) : prs.length ≤ (prs.flatMap (fun q : List Nat × Nat => q.1 ++ [q.2])).length := by
  induction prs with
  | nil => simp
  | cons q prs ih =>
    rw [List.flatMap_cons, List.length_append, List.length_append, List.length_cons, List.length_singleton]
    omega
theorem told_few {ds : List Nat} (h : ds.length ≤ 12) : (told (cells ds)).length ≤ 19 := by
  obtain ⟨prs, rest, cuts, e1, _, e3, e4, e5⟩ := told_cells _ ds (Nat.le_refl _)
  have h1 := pair_len e4
  rw [e5, List.length_map] at h1
  have h2 := prs_len prs
  have h3 := congrArg List.length e1
  rw [List.length_append] at h3
  rw [e3, List.length_append, List.length_singleton]
  omega

set_option maxHeartbeats 4000000 in
theorem law2 {w : World} {A : Around} {E : Value → Shared → Prop} {Q : Flow → Shared → Prop} {s : Shared} {mg mb : Str → Option Value} {g : Heap} {L a : Addr} {cd : Value} {m : Str → Option Value} {DR CL : Addr} {ds : List Nat} {v2 : Option Value}
    (hh : A.handled = none) (hroom : A.depth + 3 < recursionLimit) (hu : A.units + 64 < cLine) (T : Facts mg mb g) (S : LS g L s.heap m (some (.ref DR)) v2) (hmc : m "cells" = some (.ref CL)) (hD : Hd L s.heap DR ds) (hC : Hd L s.heap CL (cells ds))
    (hds : ds.length ≤ 12) (hdl : ∀ n ∈ ds, n < 16777216)
    (next : ∀ h' tk m' TL, LS g L h' m' (some (.ref DR)) v2 → m' "told" = some (.ref TL) → Hd L h' DR ds → TAt L h' TL (told (cells ds)) →
      wpAny (model pg w) A (execs ((recAt 11).body.drop 4) (envC 11 L a cd)) Q E { s with heap := h', toks := tk }) :
    wpAny (model pg w) A (execs ((recAt 11).body.drop 2) (envC 11 L a cd)) Q E s := by
  obtain ⟨f9, o9, _, _, _, d91, d92, d93, _⟩ := T.fn 9 (by simp)
  obtain ⟨f10, o10, _, _, _, d01, d02, d03, _⟩ := T.fn 10 (by simp)
  obtain ⟨cv, hcl, hci, hco⟩ := id hC
  have hcn : (cells ds).length ≤ 1000000 := by have := cells_len hdl; omega
  refine wpAny_execs_cons (wpAny_Assign_Name (Call_ (nmG (T.keeps S.F.keep) d91 (callWith_def d93 (args_cons (MethodCall_ (Constant_str (GM.join ?_))))))))
  refine callWith_method1 (args_cons ?_)
  refine comp_chr (l := CL) (items := cv) (cs := cells ds) hh (T.keeps S.F.keep) (closureFor_none (by decide)) (by decide) rfl (by decide) rfl (fun Q' hq => nmL (s := { s with toks := _ }) S.F.ns hmc hq) hcl hci (cells_128 ds) hcn fun D ys h₁ tk₁ hplD hst hk₁ => ?_
  have S₁ := S.keeps hk₁
  refine args_nil (join_chr hplD.isList hst hcn fun t' tk₂ => ?_)
  refine args_nil ⟨S₁.F.keep _ _ d92, ?_⟩
  refine cut_call (by omega) (T.keeps S₁.F.keep) d91 (by simpa [stOf] using hcn) (by rw [stOf_list]; exact told_few hds) fun N items h₂ tk₃ hN hp hk₂ => ?_
  rw [stOf_list] at hp
  have S₂ := S₁.keeps hk₂
  refine stS S₂.F fun h₃ F₃ hs₃ => ?_
  have S₃ := S₂.stored F₃.ns fun b o hb e => (hs₃.2 b hb).trans e
  have k3 : ∀ b o, b ≠ L → b ≠ L + 1 → b ≠ L + 2 → s.heap.get? b = some o → h₃.get? b = some o := fun b o hb _ _ e => (hs₃.2 b hb).trans (hk₂ b o (hk₁ b o e))
  have TA : TAt L h₃ N (told (cells ds)) := by
    obtain ⟨nn, hoN⟩ := id hN
    have t2 : TAt L h₂ N (told (cells ds)) := ⟨items, hN.isList, paired_mono (fun _ _ q => S₂.ans q) hp, S₂.listOw hoN rfl⟩
    exact t2.keeps fun b o hb _ _ e => (hs₃.2 b hb).trans e
  have hD₃ := hD.keeps k3
  obtain ⟨cv', hcl', hci', hco'⟩ := hC.keeps k3
  refine wpAny_execs_cons (wpAny_If (wpAny_isTrue_Compare1 (nmL F₃.ns (v := .ref N) rfl (Call_ (nmG (T.keeps F₃.keep) d01 (callWith_def d03 (args_cons (nmL F₃.ns (v := .ref CL) (by exact hmc) (args_nil ⟨F₃.keep _ _ d02, ?_⟩)))))))))
  refine due_call hh (by omega) (T.keeps F₃.keep) d01 hcl' hci' (cells_128 ds) hcn fun M ys' h₄ tk₄ hM hp' hk₄ => ?_
  have S₄ := S₃.keeps hk₄
  have TA₄ := TA.keeps fun b o _ _ _ e => hk₄ b o e
  obtain ⟨tv, htl, htp, _⟩ := id TA₄
  refine ne_told htl hM.isList (paired_mono (fun _ _ q => q.keep (fun _ _ _ e => e) (fun _ _ _ _ => by simp)) htp) hp' (told_ok (cells_128 ds)) hu (wpAny_truthy_bool ?_)
  refine wpAny_execs_nil ?_
  exact next h₄ _ _ N S₄ rfl (hD₃.keeps fun b o _ _ _ e => hk₄ b o e) TA₄
end Mine
end

/-! ## MW3 -/
section
open PySem PySem.W PyProof.Rows PySem.Calls
namespace Mine

theorem paired_mem {α β : Type} {F : α → β → Prop} : ∀ {l : List α} {d : List β}, Paired F l d → ∀ {v}, v ∈ l → ∃ a ∈ d, F v a
  | _, _, .cons h t, v, hv => by
    rcases List.mem_cons.mp hv with rfl | hv
    · exact ⟨_, by simp, h⟩
    · obtain ⟨a, ha, q⟩ := paired_mem t hv
      exact ⟨a, by simp [ha], q⟩
theorem paired_len {α β : Type} {F : α → β → Prop} : ∀ {l : List α} {d : List β}, Paired F l d → l.length = d.length
  | _, _, .nil => rfl
  | _, _, .cons _ t => by simp [paired_len t]

def GP (h : Heap) (L : Addr) (v : Value) (ys : List Value) : Prop := ys.length ≤ 2 ∧ ∀ x y z, AnsAt h (bads L) v (.cut x y z) → ∃ t1 t2, ys = [.str (stOf x) t1, .str (stOf y) t2]

theorem strs_flat {h : Heap} {L : Addr} : ∀ {vs : List Value} {cuts : List Ans} {yss : List (List Value)}, (∀ a ∈ cuts, ∃ x y z, a = Ans.cut x y z) → Paired (AnsAt h (bads L)) vs cuts → Paired (GP h L) vs yss → StrsAre yss.flatten ((cuts.flatMap pairOf).map stOf)
  | _, [], _, _, .nil, .nil => .nil
  | _, a :: cuts, _, hc, .cons q p, .cons r u => by
    obtain ⟨x, y, z, rfl⟩ := hc a (by simp)
    obtain ⟨t1, t2, rfl⟩ := r.2 x y z q
    have := strs_flat (fun b hb => hc b (List.mem_cons_of_mem _ hb)) p u
    exact .cons _ _ (.cons _ _ this)

/-- the pieces -/
def Ps (L : Addr) (h : Heap) (X : Addr) (ps : List (List Nat)) : Prop := ∃ xv, h.IsList X xv ∧ StrsAre xv.toList (ps.map stOf) ∧ Ow L X
theorem Ps.keeps {L : Addr} {h h' : Heap} {X : Addr} {ps : List (List Nat)} (x : Ps L h X ps) (hk : ∀ b o, b ≠ L → b ≠ L + 1 → b ≠ L + 2 → h.get? b = some o → h'.get? b = some o) : Ps L h' X ps :=
  let ⟨xv, hl, hi, ho⟩ := x; ⟨xv, hl.at fun o e => hk X o ho.1 ho.2.1 ho.2.2 e, hi, ho⟩
theorem strs_len {vs : List Value} {ss : List Str} (h : StrsAre vs ss) : vs.length = ss.length := by
  induction h with
  | nil => rfl
  | cons _ _ _ ih => simp [ih]

set_option maxHeartbeats 4000000 in
theorem law3 {w : World} {A : Around} {E : Value → Shared → Prop} {Q : Flow → Shared → Prop} {s : Shared} {g : Heap} {L a : Addr} {cd : Value} {m : Str → Option Value} {DR TL : Addr} {ds : List Nat} {cuts : List Ans} {c : List Nat} {v2 : Option Value}
    (hh : A.handled = none) (S : LS g L s.heap m (some (.ref DR)) v2) (hmt : m "told" = some (.ref TL)) (hD : Hd L s.heap DR ds) (TA : TAt L s.heap TL (cuts ++ [.fin c])) (hcuts : ∀ a ∈ cuts, ∃ x y z, a = Ans.cut x y z) (hcn : cuts.length ≤ 100)
    (next : ∀ h' tk m' PC, LS g L h' m' (some (.ref DR)) v2 → m' "told" = some (.ref TL) → m' "pieces" = some (.ref PC) → Hd L h' DR ds → TAt L h' TL (cuts ++ [.fin c]) → Ps L h' PC (cuts.flatMap pairOf) →
      wpAny (model pg w) A (execs ((recAt 11).body.drop 5) (envC 11 L a cd)) Q E { s with heap := h', toks := tk }) :
    wpAny (model pg w) A (execs ((recAt 11).body.drop 4) (envC 11 L a cd)) Q E s := by
  obtain ⟨tv, htl, htp, hto⟩ := id TA
  obtain ⟨l', vl, htv, hpl', _⟩ := paired_last htp
  have hll := paired_len hpl'
  have hts : tv.size = cuts.length + 1 := by
    have e := congrArg List.length htv
    simp at e
    omega
  refine wpAny_execs_cons (comp_two_asgn (m := m) 2 (GP s.heap L) (cl := []) rfl hh (closureFor_none (by decide)) (by decide) rfl (by decide) rfl rfl (by decide) rfl rfl (fun _ _ => rfl) (fun v ys q => q.1) ?_)
  refine Subscript_ (nmL S.F.ns hmt (slNS (UnaryOp_ (wpAny_Constant_int (neg_int ?_)))))
  refine sl_tail (s := { s with toks := _ }) htl .none (.int _ _) (by rw [sizeLine_eq]; omega) fun N₁ h₁ hN₁ hf₁ hk₁ => ?_
  have e1 : slicePick tv none (some (-1)) none = l'.toArray := by
    have e := slicePick_butLast tv 1 (by omega)
    rw [htv, hts, ← hll] at e
    simpa using e
  rw [e1] at hN₁
  have S₁ := S.keeps hk₁
  refine ⟨N₁, l'.toArray, rfl, S₁.F.ns, ⟨hN₁.isList, by simp, by simp, by rw [sizeLine_eq]; simp; omega, ?_⟩, ?_⟩
  · intro C v s₄ m₄ E' Q' hv hn hm K hC hq
    obtain ⟨an, han, hans⟩ := paired_mem hpl' (v := v) (by simpa using hv)
    obtain ⟨x, y, z, rfl⟩ := hcuts an han
    obtain ⟨X, t1, t2, t3, rfl, hX, hlX⟩ := id hans
    refine Subscript_ (nmL hn hm (slNS (wpAny_Constant_int ?_)))
    refine sl_tail (s := { s₄ with toks := _ }) (hlX.at fun o e => K.1 _ o (by simp) (hk₁ _ o e)) .none (.int _ _) (by rw [sizeLine_eq]; simp) fun N h' hN hf hk => ?_
    have e2 : slicePick #[Value.str (stOf x) t1, Value.str (stOf y) t2, Value.str (stOf z) t3] none (some 2) none = #[.str (stOf x) t1, .str (stOf y) t2] := slicePick_upto' _ 2
    rw [e2] at hN
    refine hq N _ h' _ hN.isList ⟨by simp, fun x' y' z' q => ?_⟩ hf (.of hk)
    obtain ⟨X', u1, u2, u3, eX, _, o', ho', _, n', hd'⟩ := q
    cases eX
    obtain ⟨o, ho, _, n, hd⟩ := hlX
    rw [ho] at ho'
    cases ho'
    rw [hd] at hd'
    simp only [Data.seq.injEq] at hd'
    have h1 := hd'.1
    simp only [Array.mk.injEq, List.cons.injEq, and_true] at h1
    exact ⟨u1, u2, by rw [h1.1, h1.2.1]⟩
  · intro D ys yss h₅ tk₅ hD5 hpl hp hys hn₅ hk₅
    have S₅ := S₁.stored hn₅ hk₅
    have k5 : ∀ b o, b ≠ L → b ≠ L + 1 → b ≠ L + 2 → s.heap.get? b = some o → h₅.get? b = some o := fun b o h1 _ _ e => hk₅ b o h1 (hk₁ b o e)
    refine next h₅ tk₅ _ D S₅ (by exact hmt) rfl (hD.keeps k5) (TA.keeps k5) ⟨ys, hpl.isList, ?_, S₁.ow hD5⟩
    rw [hys]
    exact strs_flat hcuts hpl' (by simpa using hp)
end Mine
end

/-! ## MW4 -/
section
open PySem PySem.W PyProof.Rows PySem.Calls
namespace Mine

section
variable {prog : Program} {w : World} {A : Around} {E : Value → Shared → Prop} {s : Shared} {env : Env}
/-- a comprehension over range(n), swapped into a name -/
theorem comp_range_asgn {elt iter : Expr} {x y : Str} {px py spos : Pos} {ifs : List Expr} {scope : Scope} {cl : List (Str × Addr)} {pos : Pos} {n : Nat} {Q : Flow → Shared → Prop} {m : Str → Option Value} (p : Value → Bool) (F : Value → Value → Prop)
    (hsw : swapsWith (.ListComp elt [⟨.Name x px, iter, ifs, 0⟩] scope pos) (some (.Name y py)) spos.line env = pure true)
    (hh : A.handled = none) (hclos : closureFor scope env = pure cl) (hcell : ∀ y ∈ scope.names, y.2 ≠ .cell) (hkind : scope.kind = .function)
    (hnames : ∀ y ∈ scope.names, y.2 = .local → scope.names.lookup y.1 = some .local) (hx : scope.names.lookup x = some .local)
    (hy : env.kindOf y = some .local) (hp : (env.scope.kind == .class || (env.scope.kind == .module && env.locals != env.globals)) = false) (hn : n ≤ 1000000) (hns : s.heap.Ns env.locals m)
    (hit : ∀ Q', (∀ r h₁ tk₁ t u v, IsRange h₁ r 0 (n : Int) 1 t u v → (∀ b o, s.heap.get? b = some o → h₁.get? b = some o) → Q' (.ref r) { s with heap := h₁, toks := tk₁ }) → wpAny (model prog w) A (eval iter env) Q' E s)
    (htests : ∀ C k t s₃ m₃ E', k < n → s₃.heap.Ns C m₃ → m₃ x = some (.int ((k : Nat) : Int) t) → (∀ b o, s.heap.get? b = some o → s₃.heap.get? b = some o) →
      wpAny (model prog w) A (forIn ifs true fun c r => if r = true then do let ok ← isTrue c (compEnvC scope cl C env) (eval c (compEnvC scope cl C env)); pure (ForInStep.yield ok) else pure (ForInStep.yield r))
        (fun ok s₄ => ok = p (.int ((k : Nat) : Int) t) ∧ Keeps s₃ s₄) E' s₃)
    (helt : ∀ C k t s₃ m₃ E', k < n → p (.int ((k : Nat) : Int) t) = true → s₃.heap.Ns C m₃ → m₃ x = some (.int ((k : Nat) : Int) t) → (∀ b o, s.heap.get? b = some o → s₃.heap.get? b = some o) →
      wpAny (model prog w) A (eval elt (compEnvC scope cl C env)) (fun y s₄ => F (.int ((k : Nat) : Int) t) y ∧ Keeps s₃ s₄) E' s₃)
    (hok : ∀ D h' tk ys vs, IntsAre vs (zs (List.range' 0 n)) → s.heap.get? D = none → h'.PlainList D ys → Paired F (vs.filter p) ys.toList → h'.Ns env.locals (fun z => if z = y then some (.ref D) else m z) →
      (∀ b o, b ≠ env.locals → s.heap.get? b = some o → h'.get? b = some o) → Q .next { s with heap := h', toks := tk })
    (hs : ∀ x, foldedSetIterable iter env x = pure x := by intro _; rfl) :
    wpAny (model prog w) A (exec (.Assign [.Name y py] (.ListComp elt [⟨.Name x px, iter, ifs, 0⟩] scope pos) spos) env) Q E s := by
  refine wpAny_Assign_ListComp_free p F hsw hclos hcell hkind hnames hx hy hp (hit _ fun r h₁ tk₁ t u v hr hk₁ => ?_) hs
  refine wpAny_pyIter_range hr (rsmall1 n hn) ?_
  have hIs : ∀ b o, h₁.get? b = some o → b ∉ [h₁.objs.size] := fun b o e q => by
    obtain rfl := List.mem_singleton.mp q
    exact absurd (Heap.lt_size e) (Nat.lt_irrefl _)
  have up : ∀ {s₃ : Shared} {oo : Obj}, (∀ b o, b ∉ [h₁.objs.size] → (h₁.push oo).get? b = some o → s₃.heap.get? b = some o) → ∀ b o, s.heap.get? b = some o → s₃.heap.get? b = some o :=
    fun hk b o e => hk b o (hIs b o (hk₁ b o e)) (Heap.get?_push_of_some _ (hk₁ b o e))
  have W : Walks prog w A h₁.objs.size [h₁.objs.size] [h₁.objs.size] n (fun i v => i < n ∧ ∃ t, v = .int (0 + i * 1) t) (fun i h => IsRangeIter h h₁.objs.size (0 + (i : Nat) * 1) ((n : Int) - (i : Nat)) 1) := (Walks.range hh _ 0 1 n).bound
  obtain ⟨oL, _, _, hoL, _⟩ := id hns
  refine ⟨_, [h₁.objs.size], [h₁.objs.size], n, _, _, m, rfl, W, by rw [sizeLine_eq]; omega, ?_, ?_, hIs _ _ (hk₁ _ _ hoL), (hns.keeps hk₁).at' fun o e => Heap.get?_push_of_some _ e, ⟨?_, ?_⟩, ?_⟩
  · show IsRangeIter _ _ _ _ _
    rw [rsize1]
    simpa using Heap.get?_push_size _ rfl
  · intro b hb
    obtain rfl := List.mem_singleton.mp hb
    rw [Heap.size_push]
    exact Nat.lt_succ_self _
  · intro C i v s₃ m₃ E' _ hP hn' hm hk _
    obtain ⟨hi, t, rfl⟩ := hP
    simp only [Int.zero_add, Int.mul_one] at hm ⊢
    exact htests C i t s₃ m₃ E' hi hn' hm (up hk)
  · intro C i v s₃ m₃ E' _ hP hp hn' hm hk _
    obtain ⟨hi, t, rfl⟩ := hP
    simp only [Int.zero_add, Int.mul_one] at hm hp ⊢
    exact helt C i t s₃ m₃ E' hi hp hn' hm (up hk)
  · intro D h' tk ys vs hD _ hpl hlen hP hpair hn' hk
    refine hok D h' tk ys vs (ints_range hlen fun j v hv => ?_) ?_ hpl hpair hn' (fun b o hb e => hk b o hb (hIs b o (hk₁ b o e)) (Heap.get?_push_of_some _ (hk₁ b o e)))
    · obtain ⟨_, t, rfl⟩ := hP j v hv
      exact ⟨t, by simp⟩
    · cases q : s.heap.get? D with
      | none => rfl
      | some o => rw [Heap.get?_push_of_some _ (hk₁ _ _ q)] at hD; cases hD
end

abbrev fAt (ds : List Nat) (p : Nat) : Nat := ds.getD p 0
def apartOf (ds : List Nat) (k : Nat) : List Nat := ((List.range' 0 ds.length).filter (fun p => decide (fAt ds p % 64 = 39))).take k
def pA (ds : List Nat) : Value → Bool
  | .int k _ => decide (fAt ds k.toNat % 64 = 39)
  | _ => false

set_option maxHeartbeats 4000000 in
theorem law4 {w : World} {A : Around} {E : Value → Shared → Prop} {Q : Flow → Shared → Prop} {s : Shared} {mg mb : Str → Option Value} {g : Heap} {L a : Addr} {cd : Value} {m : Str → Option Value} {DR PC : Addr} {ds : List Nat} {ps : List (List Nat)} {v2 : Option Value}
    (hh : A.handled = none) (T : Facts mg mb g) (S : LS g L s.heap m (some (.ref DR)) v2) (hmp : m "pieces" = some (.ref PC)) (hD : Hd L s.heap DR ds) (hP : Ps L s.heap PC ps) (hds : ds.length ≤ 12) (hps : ps.length ≤ 1000)
    (next : ∀ h' tk AP, LS g L h' m (some (.ref DR)) (some (.ref AP)) → Hd L h' AP (apartOf ds ps.length) → (∀ b o, b ≠ L → b ≠ L + 1 → b ≠ L + 2 → s.heap.get? b = some o → h'.get? b = some o) →
      wpAny (model pg w) A (execs ((recAt 11).body.drop 6) (envC 11 L a cd)) Q E { s with heap := h', toks := tk }) :
    wpAny (model pg w) A (execs ((recAt 11).body.drop 5) (envC 11 L a cd)) Q E s := by
  obtain ⟨dv, hdl, hdi, hdo⟩ := id hD
  obtain ⟨pv, hpl, hpi, hpo⟩ := id hP
  have hisz : dv.size = ds.length := by
    have e := hdi.length
    simpa using e
  have hpsz : pv.size = ps.length := by
    have e := strs_len hpi
    simpa using e
  refine wpAny_execs_cons (wpAny_Assign_Name (Subscript_ ?_))
  refine comp_range (n := ds.length) (pA ds) (fun v y => y = v) hh (cl := [("drawn", L + 1)]) rfl (by decide) rfl (by decide) rfl (by omega) ?_ ?_ ?_ ?_
  · intro Q' hq
    refine Call_ (nmB (T.keeps S.F.keep) (by simp) Boot.«range» (PyProof.Rows.callWith_type1 (args_cons (Call_ ?_))))
    refine nmB (T.keeps S.F.keep) (by simp) Boot.«len» (PyProof.Rows.callWith_builtin1 (args_cons (nmC S.c1 (args_nil ?_))))
    refine Calls.call_len_list hdl (by rw [hisz]; omega) (args_nil ?_)
    rw [hisz]
    refine call_range_1 ?_
    exact hq _ _ _ _ _ _ (Heap.get?_push_size _ rfl) fun b o e => Heap.get?_push_of_some _ e
  · intro C k t s₅ m₅ E' hk hn hm hk₅
    have hge : ds[k]? = some ds[k] := List.getElem?_eq_getElem hk
    refine wpAny_tests_one (wpAny_isTrue_Compare1 (wpAny_BinOp (Subscript_ (nmC (S.c1.keeps hk₅) (nmL hn hm ?_)))))
    refine item_intsR (v := ((ds[k] : Nat) : Int)) (hdl.at fun o e => hk₅ _ o e) hdi (by omega) (by omega) (by rw [Int.toNat_natCast, List.getElem?_map, hge]; rfl) fun t' => ?_
    refine wpAny_Constant_int (mod_int' (by decide) (wpAny_Constant_int (eq_int (wpAny_truthy_bool ⟨?_, Keeps.of fun _ _ e => e⟩))))
    show _ = decide (fAt ds (k : Int).toNat % 64 = 39)
    rw [Int.toNat_natCast, fmod64, fAt, List.getD, hge, Bool.eq_iff_iff]
    simp
    omega
  · intro C k t s₅ m₅ E' hk hp hn hm hk₅
    exact nmL hn hm ⟨rfl, Keeps.refl _⟩
  · intro D₅ h₅ tk₅ ys₅ vs₅ hvs hD₅ hpl₅ hpair hk₅
    have hints : IntsAre ys₅.toList (zs ((List.range' 0 ds.length).filter (fun p => decide (fAt ds p % 64 = 39)))) := ints_filter (fun k t => rfl) hvs hpair
    have hysz : ys₅.size ≤ ds.length := by
      have e := hints.length
      have := List.length_filter_le (fun p => decide (fAt ds p % 64 = 39)) (List.range' 0 ds.length)
      simp at e this
      omega
    have S₅ := S.keeps hk₅
    refine slNS (Call_ (nmB (T.keeps S₅.F.keep) (by simp) Boot.«len» (PyProof.Rows.callWith_builtin1 (args_cons (nmL S₅.F.ns hmp (args_nil ?_))))))
    refine Calls.call_len_list (hpl.at fun o e => hk₅ _ o e) (by rw [hpsz]; omega) ?_
    rw [hpsz]
    refine sl_tail (s := { s with heap := h₅, toks := _ }) hpl₅.isList .none (.int _ _) (by rw [sizeLine_eq]; omega) fun N₆ h₆ hN₆ hf₆ hk₆ => ?_
    rw [slicePick_upto'] at hN₆
    have S₆ := S₅.keeps hk₆
    have ow₆ := S₅.ow hf₆
    refine wpAny_storeName_cell rfl rfl rfl S₆.c2 fun h₇ hc₇ hs₇ => ?_
    have S₇ := S₆.set2 hc₇ hs₇
    refine next h₇ _ N₆ S₇ ⟨_, hN₆.isList.extBut hs₇.extBut ow₆.2.2, ?_, ow₆⟩ fun b o _ _ h2 e => (hs₇.2 b h2).trans (hk₆ b o (hk₅ b o e))
    unfold apartOf zs
    rw [List.map_take]
    simpa using hints.take ps.length
end Mine
end

/-! ## MW5 -/
section
open PySem PySem.W PyProof.Rows PySem.Calls
namespace Mine

def pK (ap : List Nat) : Value → Bool
  | .int k _ => !decide (k ∈ zs ap)
  | _ => false
theorem mem_zs {k : Nat} {ap : List Nat} : ((k : Nat) : Int) ∈ zs ap ↔ k ∈ ap := by
  unfold zs
  rw [List.mem_map]
  constructor
  · rintro ⟨x, hx, e⟩
    have : x = k := by omega
    exact this ▸ hx
  · intro h
    exact ⟨k, h, rfl⟩
theorem ints_map {f : Nat → Nat} {G : Value → Value → Prop} (hG : ∀ (k : Nat) t y, G (.int (k : Int) t) y → ∃ u, y = Value.int ((f k : Nat) : Int) u) : ∀ {vs ys : List Value} {ks : List Nat}, IntsAre vs (zs ks) → Paired G vs ys → IntsAre ys (zs (ks.map f))
  | _, _, [], .nil, .nil => .nil
  | _, _, k :: ks, .cons _ t h, .cons q p => by
    obtain ⟨u, rfl⟩ := hG k t _ q
    exact .cons _ _ (ints_map hG h p)
theorem ints_filterV {pz : Nat → Bool} {p : Value → Bool} (hp : ∀ (k : Nat) t, p (.int (k : Int) t) = pz k) : ∀ {vs : List Value} {ks : List Nat}, IntsAre vs (zs ks) → IntsAre (vs.filter p) (zs (ks.filter pz))
  | _, [], .nil => .nil
  | _, k :: ks, .cons _ t h => by
    by_cases hk : pz k = true
    · rw [List.filter_cons, if_pos ((hp k t).trans hk), List.filter_cons, if_pos hk]
      exact .cons _ _ (ints_filterV hp h)
    · rw [List.filter_cons, if_neg (by rw [hp]; exact hk), List.filter_cons, if_neg hk]
      exact ints_filterV hp h

set_option maxHeartbeats 4000000 in
theorem law5 {w : World} {A : Around} {E : Value → Shared → Prop} {Q : Flow → Shared → Prop} {s : Shared} {mg mb : Str → Option Value} {g : Heap} {L a : Addr} {cd : Value} {m : Str → Option Value} {DR AP : Addr} {ds : List Nat} {k : Nat}
    (hh : A.handled = none) (hu : A.units + 64 < cLine) (T : Facts mg mb g) (S : LS g L s.heap m (some (.ref DR)) (some (.ref AP))) (hD : Hd L s.heap DR ds) (hA : Hd L s.heap AP (apartOf ds k)) (hds : ds.length ≤ 12)
    (next : ∀ h' tk KP, LS g L h' (fun z => if z = "kept" then some (.ref KP) else m z) (some (.ref DR)) (some (.ref AP)) → Hd L h' KP (rem k ds) → (∀ b o, b ≠ L → s.heap.get? b = some o → h'.get? b = some o) →
      wpAny (model pg w) A (execs ((recAt 11).body.drop 7) (envC 11 L a cd)) Q E { s with heap := h', toks := tk }) :
    wpAny (model pg w) A (execs ((recAt 11).body.drop 6) (envC 11 L a cd)) Q E s := by
  obtain ⟨dv, hdl, hdi, hdo⟩ := id hD
  obtain ⟨av, hal, hai, hao⟩ := id hA
  have hisz : dv.size = ds.length := by
    have e := hdi.length
    simpa using e
  refine wpAny_execs_cons (comp_range_asgn (n := ds.length) (m := m) (pK (apartOf ds k)) (fun v y => ∀ (k : Nat) t, v = Value.int (k : Int) t → ∃ u, y = Value.int ((fAt ds k : Nat) : Int) u) rfl hh (cl := [("drawn", L + 1), ("apart", L + 2)]) rfl (by decide) rfl (by decide) rfl rfl rfl (by omega) S.F.ns ?_ ?_ ?_ ?_)
  · intro Q' hq
    refine Call_ (nmB (T.keeps S.F.keep) (by simp) Boot.«range» (PyProof.Rows.callWith_type1 (args_cons (Call_ ?_))))
    refine nmB (T.keeps S.F.keep) (by simp) Boot.«len» (PyProof.Rows.callWith_builtin1 (args_cons (nmC S.c1 (args_nil ?_))))
    refine Calls.call_len_list hdl (by rw [hisz]; omega) (args_nil ?_)
    rw [hisz]
    refine call_range_1 ?_
    exact hq _ _ _ _ _ _ (Heap.get?_push_size _ rfl) fun b o e => Heap.get?_push_of_some _ e
  · intro C j t s₅ m₅ E' hj hn hm hk₅
    refine wpAny_tests_one (wpAny_isTrue_Compare1 (nmL hn hm (nmC (S.c2.keeps hk₅) ?_)))
    exact notIn_ints (hal.at fun o e => hk₅ _ o e) hai hu (wpAny_truthy_bool ⟨rfl, Keeps.refl _⟩)
  · intro C j t s₅ m₅ E' hj hp hn hm hk₅
    have hge : ds[j]? = some ds[j] := List.getElem?_eq_getElem hj
    refine Subscript_ (nmC (S.c1.keeps hk₅) (nmL hn hm ?_))
    refine item_intsR (v := ((ds[j] : Nat) : Int)) (hdl.at fun o e => hk₅ _ o e) hdi (by omega) (by omega) (by rw [Int.toNat_natCast, List.getElem?_map, hge]; rfl) fun t' => ?_
    refine ⟨fun k' u e => ?_, Keeps.refl _⟩
    have e1 : ((j : Nat) : Int) = k' := by injection e
    have e2 : j = k' := by omega
    subst e2
    refine ⟨t', ?_⟩
    rw [fAt, List.getD, hge]
    rfl
  · intro D h₅ tk₅ ys₅ vs₅ hvs hD₅ hpl₅ hpair hn₅ hk₅
    have S₅ := S.stored hn₅ hk₅
    refine next h₅ tk₅ D S₅ ⟨ys₅, hpl₅.isList, ?_, S.ow hD₅⟩ hk₅
    have h1 := ints_filterV (pz := fun p => decide (p ∉ apartOf ds k)) (p := pK (apartOf ds k)) (fun j t => by
      show (!decide (((j : Nat) : Int) ∈ zs (apartOf ds k))) = _
      rw [decide_not]
      congr 1
      exact decide_eq_decide.mpr mem_zs) hvs
    have h2 := ints_map (f := fAt ds) (fun j t y q => q j t rfl) h1 hpair
    have h3 := kept_rem (fAt ds) ds 0 k fun i hi => by
      rw [Nat.zero_add, fAt, List.getD, List.getElem?_eq_getElem hi]; rfl
    unfold apartOf at h2
    rw [h3] at h2
    exact h2
end Mine
end

/-! ## MW6 -/
section
open PySem PySem.W PyProof.Rows PySem.Calls
namespace Mine

theorem rd_det : ∀ {x a b : List Nat}, RdAll x a → RdAll x b → a = b
  | _, _, _, .nil _, .nil _ => rfl
  | _, _, _, .nil h, .cons h' _ => by rw [h] at h'; cases h'
  | _, _, _, .cons h _, .nil h' => by rw [h] at h'; cases h'
  | _, _, _, .cons h p, .cons h' q => by
    rw [h] at h'
    cases h'
    rw [rd_det p q]
theorem more_lt : ∀ {v : Nat} {cs r : List Nat} {n : Nat}, more v cs = some (n, r) → r.length < cs.length
  | _, [], _, _, h => by simp [more] at h
  | v, b :: cs, r, n, h => by
    unfold more at h
    split at h
    · cases h; simp
    · have := more_lt h
      simp only [List.length_cons]
      omega
theorem rd_len {x ns : List Nat} (h : RdAll x ns) : ns.length ≤ x.length := by
  induction h with
  | nil _ => simp
  | cons hp _ ih =>
    rw [parse_more] at hp
    have := more_lt hp
    simp only [List.length_cons]
    omega
theorem stOf_inj {x y : List Nat} (h : stOf x = stOf y) : x = y := by
  have := congrArg (fun q : Str => q.cps.toList) h
  simpa [stOf] using this
theorem strs_mem {vs : List Value} {xs : List (List Nat)} (h : StrsAre vs (xs.map stOf)) {v : Value} (hv : v ∈ vs) : ∃ x t, v = .str (stOf x) t ∧ x ∈ xs := by
  induction xs generalizing vs with
  | nil => cases h; cases hv
  | cons x xs ih =>
    cases h with
    | cons _ t h' =>
      rcases List.mem_cons.mp hv with rfl | hv
      · exact ⟨x, t, rfl, by simp⟩
      · obtain ⟨k, u, e, hk⟩ := ih h' hv
        exact ⟨k, u, e, by simp [hk]⟩

def GR (v : Value) (ys : List Value) : Prop := ys.length ≤ 1000 ∧ ∀ x t ns, v = .str (stOf x) t → RdAll x ns → IntsAre ys (zs ns)
theorem rd_flat : ∀ {vs : List Value} {xs nss : List (List Nat)} {yss : List (List Value)}, StrsAre vs (xs.map stOf) → Paired RdAll xs nss → Paired GR vs yss → IntsAre yss.flatten (zs nss.flatten)
  | _, [], _, _, .nil, .nil, .nil => .nil
  | _, x :: xs, _, _, .cons _ t h, .cons q p, .cons r u => by
    rw [List.flatten_cons, List.flatten_cons, zs, List.map_append]
    exact ints_app (r.2 x t _ rfl q) (rd_flat h p u)

theorem LS.kp {g h h' : Heap} {L : Addr} {m : Str → Option Value} {v1 v2 : Option Value} (S : LS g L h m v1 v2) (K : Kp [L] h h') : LS g L h' m v1 v2 := by
  have nL : ∀ {b : Addr}, b ≠ L → b ∉ [L] := fun hb q => hb (List.mem_singleton.mp q)
  refine ⟨⟨K.2.ns S.F.ns, fun b o e => K.1 b o (nL (S.old e).1) (S.F.keep b o e), S.F.above⟩, ?_, ?_⟩
  · obtain ⟨o, ho, hd⟩ := S.c1
    exact ⟨o, K.1 _ o (nL (n1 L)) ho, hd⟩
  · obtain ⟨o, ho, hd⟩ := S.c2
    exact ⟨o, K.1 _ o (nL (n2 L)) ho, hd⟩
theorem LS.frames {g h : Heap} {L a : Addr} {cd : Value} {m : Str → Option Value} {v1 v2 : Option Value} (S : LS g L h m v1 v2) : h.FunFrames eh [envC 11 L a cd] := by
  obtain ⟨o, es, n, ho, hd, _⟩ := S.F.ns
  exact ⟨(nofun : ScopeKind.function ≠ ScopeKind.module), ⟨L, o, rfl, rfl, ho, fun vs q => by rw [hd] at q; cases q⟩, trivial⟩

set_option maxHeartbeats 4000000 in
/-- the figures read from the pieces -/
theorem read_comp {w : World} {A : Around} {E : Value → Shared → Prop} {Q : Value → Shared → Prop} {s : Shared} {mg mb : Str → Option Value} {g : Heap} {L a : Addr} {cd : Value} {m : Str → Option Value} {v1 v2 : Option Value}
    {i0 : Expr} {scope : Scope} {pos px py pe p1 p2 p3 : Pos} {xs nss : List (List Nat)}
    (hh : A.handled = none) (hroom : A.depth + 3 < recursionLimit) (hfr : A.frames = some [envC 11 L a cd]) (T : Facts mg mb g) (S : LS g L s.heap m v1 v2)
    (hsc : scope = ⟨.function, [(".0", .local), ("piece", .local), ("figure", .local), ("_law_read", .globalImplicit)], false, false, []⟩)
    (hc : ∀ x ∈ xs, ∀ c ∈ x, c < 128) (hlen : ∀ x ∈ xs, x.length ≤ 1000) (hn : xs.length ≤ 1000) (hrd : Paired RdAll xs nss)
    (hs : ∀ x, foldedSetIterable i0 (envC 11 L a cd) x = pure x)
    (h0 : ∀ Q' : Value → Shared → Prop, (∀ l items h₁ tk₁, h₁.IsList l items → StrsAre items.toList (xs.map stOf) → (∀ b o, s.heap.get? b = some o → h₁.get? b = some o) → Q' (.ref l) { s with heap := h₁, toks := tk₁ }) → wpAny (model pg w) A (eval i0 (envC 11 L a cd)) Q' E s)
    (hok : ∀ D ys h' tk, LS g L h' m v1 v2 → h'.IsList D ys → IntsAre ys.toList (zs nss.flatten) → (∀ b o, b ≠ L → s.heap.get? b = some o → h'.get? b = some o) → Q (.ref D) { s with heap := h', toks := tk }) :
    wpAny (model pg w) A (eval (.ListComp (.Name "figure" pe) [⟨.Name "piece" px, i0, [], 0⟩, ⟨.Name "figure" py, .Call (.Name "_law_read" p1) [.Name "piece" p2] [] p3, [], 0⟩] scope pos) (envC 11 L a cd)) Q E s := by
  subst hsc
  obtain ⟨f8, o8, _, _, _, d81, d82, d83, _⟩ := T.fn 8 (by simp)
  refine comp_two (wr := [L]) 1000 GR hh (closureFor_none (by decide)) (by decide) rfl (by decide) rfl rfl (by decide) (fun _ _ => rfl) (fun v ys q => q.1) (h0 _ fun l items h₁ tk₁ hl hst hk₁ => ?_) hs
  have S₁ := S.keeps hk₁
  have hisz : items.size = xs.length := by
    have e := strs_len hst
    simpa using e
  have nL : ∀ {b : Addr}, b ≠ L → b ∉ [L] := fun hb q => hb (List.mem_singleton.mp q)
  obtain ⟨ol, hol, _, nl, hdl⟩ := id hl
  obtain ⟨oL, _, _, hoL, _⟩ := id S₁.F.ns
  refine ⟨l, items, rfl, ⟨hl, nL (S₁.listOw hol hdl).1, ?_, by rw [sizeLine_eq]; omega, ?_⟩, ?_⟩
  · intro b hb
    obtain rfl := List.mem_singleton.mp hb
    exact ⟨oL, hoL⟩
  · intro C v s₄ m₄ E' Q' hv hn' hm K hC hq
    obtain ⟨x, t, rfl, hx⟩ := strs_mem hst hv
    have S₄ := S₁.kp K
    obtain ⟨ns, _, hns⟩ := paired_mem hrd hx
    refine Call_ (nmG (T.keeps S₄.F.keep) d81 (callWith_def d83 (args_cons (nmL hn' hm (args_nil ⟨S₄.F.keep _ _ d82, ?_⟩)))))
    refine rd_call (g0 := g) hh (by omega) hfr S₄.frames T S₄.F.keep (fun b hb => ?_) d81 (by rw [stOf_list]; exact hc x hx) (by have := hlen x hx; simp [stOf]; omega) (by rw [stOf_list]; exact hns) fun N ys h' tk hi hlN hf hk hus => ?_
    · obtain rfl := List.mem_singleton.mp hb
      exact Heap.get?_none_of_le S.F.above
    · refine hq N ys h' tk hlN ⟨?_, fun x' t' ns' e hr => ?_⟩ hf ⟨hk, hus⟩
      · have e := hi.length
        have h1 := rd_len hns
        have h2 := hlen x hx
        simp at e
        simp
        omega
      · have e1 : stOf x = stOf x' := by injection e
        have e2 := stOf_inj e1
        subst e2
        exact rd_det hns hr ▸ hi
  · intro D ys yss h' tk hD hpl hp hys K
    refine hok D ys h' tk (S₁.kp K) hpl.isList ?_ fun b o hb e => K.1 b o (nL hb) (hk₁ b o e)
    rw [hys]
    exact rd_flat hst hrd hp
end Mine
end

/-! ## MW7 -/
section
open PySem PySem.W PyProof.Rows PySem.Calls
namespace Mine

theorem stOf_tick (x : List Nat) : stOf x ++ ("'" : Str) = stOf (x ++ [39]) := str_eq (by
  show ((stOf x).cps ++ ("'" : Str).cps).toList = _
  have : ("'" : Str).cps = #[39] := by decide
  rw [this]
  simp [stOf])
theorem strs_app {vs ws : List Value} {ks js : List Str} (h : StrsAre vs ks) (h' : StrsAre ws js) : StrsAre (vs ++ ws) (ks ++ js) := by
  induction h with
  | nil => exact h'
  | cons n t _ ih => exact .cons _ _ ih
theorem strs_ticks : ∀ {vs ys : List Value} {xs : List (List Nat)}, StrsAre vs (xs.map stOf) → Paired (fun v y => ∀ x t, v = Value.str (stOf x) t → ∃ u, y = Value.str (stOf (x ++ [39])) u) vs ys → StrsAre ys ((xs.map (· ++ [39])).map stOf)
  | _, _, [], .nil, .nil => .nil
  | _, _, x :: xs, .cons _ t h, .cons q p => by
    obtain ⟨u, rfl⟩ := q x t rfl
    exact .cons _ _ (strs_ticks h p)

section
variable {w : World} {A : Around} {E : Value → Shared → Prop} {s : Shared} {mg mb : Str → Option Value} {g : Heap} {L a : Addr} {cd : Value} {m : Str → Option Value} {v1 v2 : Option Value} {TL PC : Addr} {cuts : List Ans} {c : List Nat} {ps : List (List Nat)}

/-- the third of the last answer told -/
theorem last_told {p1 p2 p3 p4 p5 p6 : Pos} {k1 k2 : Nat} (S : LS g L s.heap m v1 v2) (hmt : m "told" = some (.ref TL)) (TA : TAt L s.heap TL (cuts ++ [.fin c])) :
    ∀ (Q' : Value → Shared → Prop) tk, (∀ t tk', Q' (.str (stOf c) t) { s with toks := tk' }) →
      wpAny (model pg w) A (eval (.Subscript (.Subscript (.Name "told" p1) (.UnaryOp .USub (.Constant (.int 1) k1 p2) p3) p4) (.Constant (.int 2) k2 p5) p6) (envC 11 L a cd)) Q' E { s with toks := tk } := by
  intro Q' tk hq
  obtain ⟨tv, htl, htp, hto⟩ := id TA
  obtain ⟨l', vl, htv, _, hlast⟩ := paired_last htp
  obtain ⟨X, t, rfl, hX, hlX⟩ := hlast
  have hts : tv.size = l'.length + 1 := by
    have e := congrArg List.length htv
    simpa using e
  refine Subscript_ (Subscript_ (nmL (s := { s with toks := tk }) S.F.ns hmt (UnaryOp_ (wpAny_Constant_int (neg_int ?_)))))
  refine item_lastR (x := .ref X) htl (by omega) (by rw [hts, Nat.add_sub_cancel, ← Array.getElem?_toList, htv]; simp) (wpAny_Constant_int ?_)
  exact item_tupleT (l := [.none, .none, .str (stOf c) t]) (j := 2) (x := .str (stOf c) t) hlX (by decide) (by decide) rfl rfl (hq t _)

theorem src1 {p0 p1 p2 p3 p4 p5 p6 p7 p8 : Pos} {k1 k2 : Nat} (S : LS g L s.heap m v1 v2) (hmt : m "told" = some (.ref TL)) (hmp : m "pieces" = some (.ref PC)) (TA : TAt L s.heap TL (cuts ++ [.fin c])) (hP : Ps L s.heap PC ps) (hn : ps.length ≤ 900) :
    ∀ Q' : Value → Shared → Prop, (∀ l items h₁ tk₁, h₁.IsList l items → StrsAre items.toList ((ps ++ [c]).map stOf) → (∀ b o, s.heap.get? b = some o → h₁.get? b = some o) → Q' (.ref l) { s with heap := h₁, toks := tk₁ }) →
      wpAny (model pg w) A (eval (.BinOp (.Name "pieces" p0) .Add (.List [.Subscript (.Subscript (.Name "told" p1) (.UnaryOp .USub (.Constant (.int 1) k1 p2) p3) p4) (.Constant (.int 2) k2 p5) p6] p7) p8) (envC 11 L a cd)) Q' E s := by
  intro Q' hq
  obtain ⟨pv, hpl, hpi, hpo⟩ := id hP
  have hpsz : pv.size = ps.length := by
    have e := strs_len hpi
    simpa using e
  refine wpAny_BinOp (nmL S.F.ns hmp (List_ (args_cons (last_told S hmt TA _ s.toks fun t tk => args_nil ?_))))
  refine newL (s := { s with toks := tk }) S.F (fun N h₁ F₁ hN _ _ _ hk₁ => ?_) (by rw [sizeLine_eq]; simp)
  refine addLF F₁ (hpl.at fun o e => hk₁ _ o e) hN.isList (fun M h₂ F₂ hM _ _ _ hk₂ => ?_) (by rw [sizeLine_eq, hpsz]; simp; omega)
  refine hq M _ h₂ tk hM.isList ?_ fun b o e => hk₂ b o (hk₁ b o e)
  rw [Array.toList_append, List.map_append]
  exact strs_app hpi (.cons _ _ .nil)

theorem src2 {q0 q1 q2 q3 q4 q5 p1 p2 p3 p4 p5 p6 p7 p8 : Pos} {k0 k1 k2 : Nat} {scope : Scope} (hh : A.handled = none) (S : LS g L s.heap m v1 v2) (hmt : m "told" = some (.ref TL)) (hmp : m "pieces" = some (.ref PC)) (TA : TAt L s.heap TL (cuts ++ [.fin c])) (hP : Ps L s.heap PC ps) (hn : ps.length ≤ 900)
    (hlen : ∀ x ∈ ps, x.length ≤ 999) (hsc : scope = ⟨.function, [(".0", .local), ("part", .local)], false, false, []⟩) :
    ∀ Q' : Value → Shared → Prop, (∀ l items h₁ tk₁, h₁.IsList l items → StrsAre items.toList ((ps.map (· ++ [39]) ++ [c]).map stOf) → (∀ b o, s.heap.get? b = some o → h₁.get? b = some o) → Q' (.ref l) { s with heap := h₁, toks := tk₁ }) →
      wpAny (model pg w) A (eval (.BinOp (.ListComp (.BinOp (.Name "part" q0) .Add (.Constant (.str "'") k0 q1) q2) [⟨.Name "part" q3, .Name "pieces" q4, [], 0⟩] scope q5) .Add (.List [.Subscript (.Subscript (.Name "told" p1) (.UnaryOp .USub (.Constant (.int 1) k1 p2) p3) p4) (.Constant (.int 2) k2 p5) p6] p7) p8) (envC 11 L a cd)) Q' E s := by
  subst hsc
  intro Q' hq
  obtain ⟨pv, hpl, hpi, hpo⟩ := id hP
  have hpsz : pv.size = ps.length := by
    have e := strs_len hpi
    simpa using e
  refine wpAny_BinOp (comp_list (l := PC) (items := pv) (fun _ => true) (fun v y => ∀ x t, v = Value.str (stOf x) t → ∃ u, y = Value.str (stOf (x ++ [39])) u) hh (closureFor_none (by decide)) (by decide) rfl (by decide) rfl
    (fun Q' hq => nmL S.F.ns hmp hq) hpl (by rw [sizeLine_eq]; omega) ?_ ?_ ?_)
  · intro C v s₄ m₄ E' _ _ _ _
    exact wpAny_tests_nil ⟨rfl, Keeps.refl _⟩
  · intro C v s₄ m₄ E' hv _ hn' hm hk
    obtain ⟨x, t, rfl, hx⟩ := strs_mem hpi hv
    have := hlen x hx
    refine wpAny_BinOp (nmL hn' hm (Constant_str (PyProof.Rows.add_str (fun t' tk => ⟨fun x' u e => ?_, Keeps.of fun _ _ e => e⟩) ?_)))
    · have e1 : stOf x = stOf x' := by injection e
      have e2 := stOf_inj e1
      subst e2
      rw [stOf_tick]
      exact ⟨_, rfl⟩
    · rw [sizeLine_eq, stOf_len]
      show x.length + 1 ≤ _
      omega
  · intro D h₁ tk₁ ys hD hplD hpair hk₁
    rw [filter_tt] at hpair
    have hst := strs_ticks hpi hpair
    have hysz : ys.size = ps.length := by
      have e := strs_len hst
      simpa using e
    have S₁ := S.keeps hk₁
    refine List_ (args_cons (last_told (s := { s with heap := h₁, toks := tk₁ }) S₁ hmt (TA.keeps fun b o _ _ _ e => hk₁ b o e) _ tk₁ fun t tk => args_nil ?_))
    refine newL (s := { s with heap := h₁, toks := tk }) S₁.F (fun N h₂ F₂ hN _ _ _ hk₂ => ?_) (by rw [sizeLine_eq]; simp)
    refine addLF F₂ (hplD.isList.at fun o e => hk₂ _ o e) hN.isList (fun M h₃ F₃ hM _ _ _ hk₃ => ?_) (by rw [sizeLine_eq, hysz]; simp; omega)
    refine hq M _ h₃ tk hM.isList ?_ fun b o e => hk₃ b o (hk₂ b o (hk₁ b o e))
    rw [Array.toList_append, List.map_append]
    exact strs_app hst (.cons _ _ .nil)
end
end Mine
end

/-! ## MW8 -/
section
open PySem PySem.W PyProof.Rows PySem.Calls
namespace Mine

theorem toList_arr {h : Heap} {l : Addr} {xs : Array Value} (hl : h.IsList l xs) : h.IsList l xs.toList.toArray := by simpa using hl

set_option maxHeartbeats 4000000 in
theorem law6 {w : World} {A : Around} {E : Value → Shared → Prop} {Q : Flow → Shared → Prop} {s : Shared} {mg mb : Str → Option Value} {g : Heap} {L a : Addr} {cd : Value} {m : Str → Option Value} {DR TL PC KP : Addr} {v2 : Option Value}
    {cuts : List Ans} {c ds kp : List Nat} {ps nss1 nss2 : List (List Nat)}
    (hh : A.handled = none) (hroom : A.depth + 3 < recursionLimit) (hu : A.units + 64 < cLine) (hfr : A.frames = some [envC 11 L a cd]) (T : Facts mg mb g) (S : LS g L s.heap m (some (.ref DR)) v2)
    (hmt : m "told" = some (.ref TL)) (hmp : m "pieces" = some (.ref PC)) (hmk : m "kept" = some (.ref KP))
    (hD : Hd L s.heap DR ds) (TA : TAt L s.heap TL (cuts ++ [.fin c])) (hP : Ps L s.heap PC ps) (hK : Hd L s.heap KP kp)
    (hc : ∀ x ∈ ps ++ [c], ∀ q ∈ x, q < 128) (hlen : ∀ x ∈ ps ++ [c], x.length ≤ 999) (hn : ps.length ≤ 900)
    (hr1 : Paired RdAll (ps ++ [c]) nss1) (he1 : nss1.flatten = kp) (hr2 : Paired RdAll (ps.map (· ++ [39]) ++ [c]) nss2) (he2 : nss2.flatten = ds)
    (hok : ∀ h' tk m', Fr g L h' m' → Q (.ret (.bool true)) { s with heap := h', toks := tk }) :
    wpAny (model pg w) A (execs ((recAt 11).body.drop 7) (envC 11 L a cd)) Q E s := by
  refine wpAny_execs_cons (wpAny_If (wpAny_isTrue_Compare1 ?_))
  refine read_comp hh hroom hfr T S rfl hc (fun x hx => by have := hlen x hx; omega) (by simp; omega) hr1 (fun _ => rfl) (src1 S hmt hmp TA hP hn) fun D ys h₁ tk₁ S₁ hl₁ hi₁ hk₁ => ?_
  rw [he1] at hi₁
  have k1 : ∀ b o, b ≠ L → b ≠ L + 1 → b ≠ L + 2 → s.heap.get? b = some o → h₁.get? b = some o := fun b o hb _ _ e => hk₁ b o hb e
  obtain ⟨kv, hkl, hki, hko⟩ := hK.keeps k1
  refine nmL (s := { s with heap := h₁, toks := tk₁ }) S₁.F.ns hmk ?_
  refine ke_ne_ints (toList_arr hl₁) (toList_arr hkl) hi₁ hki hu (wpAny_truthy_bool ?_)
  have e0 : (!decide (zs kp = zs kp)) = false := by simp
  rw [e0]
  refine wpAny_execs_nil ?_
  have TA₁ := TA.keeps k1
  have hP₁ := hP.keeps k1
  have hD₁ := hD.keeps k1
  refine wpAny_execs_cons (wpAny_Return_some (wpAny_Compare1 ?_))
  refine read_comp (s := { s with heap := h₁, toks := tk₁ }) hh hroom hfr T S₁ rfl ?_ ?_ (by simp; omega) hr2 (fun _ => rfl) (src2 (s := { s with heap := h₁, toks := tk₁ }) hh S₁ hmt hmp TA₁ hP₁ hn (fun x hx => hlen x (by simp [hx])) rfl) fun D₂ ys₂ h₂ tk₂ S₂ hl₂ hi₂ hk₂ => ?_
  · intro x hx q hq
    rcases List.mem_append.mp hx with hx | hx
    · obtain ⟨y, hy, rfl⟩ := List.mem_map.mp hx
      rcases List.mem_append.mp hq with hq | hq
      · exact hc y (by simp [hy]) q hq
      · simp at hq; omega
    · exact hc x (by simp at hx; simp [hx]) q hq
  · intro x hx
    rcases List.mem_append.mp hx with hx | hx
    · obtain ⟨y, hy, rfl⟩ := List.mem_map.mp hx
      have := hlen y (by simp [hy])
      simp
      omega
    · have := hlen x (by simp at hx; simp [hx])
      omega
  · rw [he2] at hi₂
    obtain ⟨dv, hdl, hdi, hdo⟩ := hD₁.keeps (fun b o hb _ _ e => hk₂ b o hb e)
    refine nmC S₂.c1 ?_
    refine ke_eq_ints (toList_arr hl₂) (toList_arr hdl) hi₂ hdi hu ?_
    have e1 : decide (zs ds = zs ds) = true := by simp
    rw [e1]
    exact hok h₂ tk₂ _ S₂.F

theorem paired_append {α β : Type} {F : α → β → Prop} {l₁ l₂ : List α} {d₁ d₂ : List β} (h : Paired F l₁ d₁) (h' : Paired F l₂ d₂) : Paired F (l₁ ++ l₂) (d₁ ++ d₂) := by
  induction h with
  | nil => exact h'
  | cons x _ ih => exact .cons x ih
theorem paired_map {α β γ : Type} {F : α → β → Prop} {f : γ → α} {k : γ → β} : ∀ {l : List γ}, (∀ q ∈ l, F (f q) (k q)) → Paired F (l.map f) (l.map k)
  | [], _ => .nil
  | q :: l, h => .cons (h q (by simp)) (paired_map fun r hr => h r (by simp [hr]))

theorem seg_len {prs : List (List Nat × Nat)} {rest ds : List Nat} (e : ds = prs.flatMap (fun q : List Nat × Nat => q.1 ++ [q.2]) ++ rest) (h : ∀ n ∈ ds, n < 16777216) (hds : ds.length ≤ 12) :
    (∀ x ∈ prs.map segOf ++ [cells rest], x.length ≤ 999) := by
  intro x hx
  rcases List.mem_append.mp hx with hx | hx
  · obtain ⟨q, hq, rfl⟩ := List.mem_map.mp hx
    obtain ⟨A, B, rfl⟩ := List.append_of_mem hq
    have hsub : ∀ n ∈ q.1 ++ [q.2], n < 16777216 := fun n hn => h n (by rw [e]; simp only [List.flatMap_append, List.flatMap_cons, List.mem_append]; exact .inl (.inr (.inl (by simpa using hn))))
    have h1 := cells_len hsub
    have h2 : (q.1 ++ [q.2]).length ≤ 12 := by
      have := congrArg List.length e
      simp only [List.flatMap_append, List.flatMap_cons, List.length_append] at this ⊢
      omega
    have h3 : (segOf q).length ≤ (cells (q.1 ++ [q.2])).length := by
      rw [segOf, cells, cells, List.flatMap_append, List.length_append, List.length_append, List.flatMap_cons, List.flatMap_nil, octs_eq]
      simp
    omega
  · obtain rfl := List.mem_singleton.mp hx
    have h1 : (cells rest).length ≤ 4 * rest.length := cells_len fun n hn => h n (by rw [e]; simp [hn])
    have h2 := congrArg List.length e
    rw [List.length_append] at h2
    omega
theorem seg_128 {prs : List (List Nat × Nat)} {rest : List Nat} : ∀ x ∈ prs.map segOf ++ [cells rest], ∀ c ∈ x, c < 128 := by
  intro x hx c hc
  rcases List.mem_append.mp hx with hx | hx
  · obtain ⟨q, _, rfl⟩ := List.mem_map.mp hx
    rcases List.mem_append.mp hc with hc | hc
    · exact cells_128 _ c hc
    · exact (hiD_range _ c hc).2
  · obtain rfl := List.mem_singleton.mp hx
    exact cells_128 _ c hc

set_option maxHeartbeats 4000000 in
theorem law_all {w : World} {A : Around} {E : Value → Shared → Prop} {Q : Flow → Shared → Prop} {s : Shared} {mg mb : Str → Option Value} {g : Heap} {L a : Addr} {cd : Value} {m : Str → Option Value} {l : Addr} {items : Array Value} {ks : List Int} {v1 v2 : Option Value}
    (hh : A.handled = none) (hroom : A.depth + 3 < recursionLimit) (hu : A.units + 64 < cLine) (hfr : A.frames = some [envC 11 L a cd]) (T : Facts mg mb g) (S : LS g L s.heap m v1 v2) (hms : m "script" = some (.ref l)) (hl : g.IsList l items) (hI : IntsAre items.toList ks) (hsz : ks.length ≤ 63)
    (hok : ∀ h' tk m', Fr g L h' m' → Q (.ret (.bool true)) { s with heap := h', toks := tk }) :
    wpAny (model pg w) A (execs (recAt 11).body (envC 11 L a cd)) Q E s := by
  have hds := drawn_len ks
  have hdl := drawn_lt ks
  refine law1 hh hroom T S hms hl hI hsz fun h₁ tk₁ m₁ DR CL S₁ hmc hD₁ hC₁ => ?_
  generalize drawnOf ks = ds at *
  obtain ⟨prs, rest, cuts, e1, e2, e3, e4, e5⟩ := told_cells _ ds (Nat.le_refl _)
  have hpl : prs.length ≤ 12 := by
    have h2 := prs_len prs
    have h3 := congrArg List.length e1
    rw [List.length_append] at h3
    omega
  have hcl : cuts.length ≤ 100 := by
    have h1 := pair_len e4
    rw [e5, List.length_map] at h1
    omega
  refine law2 (s := { s with heap := h₁, toks := tk₁ }) hh hroom hu T S₁ hmc hD₁ hC₁ hds hdl fun h₂ tk₂ m₂ TL S₂ hmt₂ hD₂ TA₂ => ?_
  rw [e3] at TA₂
  refine law3 (s := { s with heap := h₂, toks := tk₂ }) hh S₂ hmt₂ hD₂ TA₂ e4 hcl fun h₃ tk₃ m₃ PC S₃ hmt₃ hmp₃ hD₃ TA₃ hP₃ => ?_
  rw [e5] at hP₃
  refine law4 (s := { s with heap := h₃, toks := tk₃ }) hh T S₃ hmp₃ hD₃ hP₃ hds (by rw [List.length_map]; omega) fun h₄ tk₄ AP S₄ hA₄ k₄ => ?_
  refine law5 (s := { s with heap := h₄, toks := tk₄ }) hh hu T S₄ (hD₃.keeps k₄) hA₄ hds fun h₅ tk₅ KP S₅ hK₅ k₅ => ?_
  have k35 : ∀ b o, b ≠ L → b ≠ L + 1 → b ≠ L + 2 → h₃.get? b = some o → h₅.get? b = some o := fun b o x y z e => k₅ b o x (k₄ b o x y z e)
  rw [List.length_map, e1, rem_prs rest e2] at hK₅
  refine law6 (s := { s with heap := h₅, toks := tk₅ }) (nss1 := prs.map (·.1) ++ [rest]) (nss2 := prs.map (fun q => q.1 ++ [q.2]) ++ [rest]) hh hroom hu hfr T S₅ (by exact hmt₃) (by exact hmp₃) rfl (hD₃.keeps k35) (TA₃.keeps k35) (hP₃.keeps k35) hK₅ seg_128 (seg_len e1 hdl hds) (by rw [List.length_map]; omega) ?_ ?_ ?_ ?_ hok
  · exact paired_append (paired_map fun q _ => rd_piece q.1 q.2) (.cons (rd_rest rest) .nil)
  · simp [List.flatMap]
  · rw [List.map_map]
    exact paired_append (paired_map fun q hq => rd_tick q.1 (e2 q hq).1) (.cons (rd_rest rest) .nil)
  · rw [e1]
    simp [List.flatMap]
end Mine
end

/-! ## MFac -/
section
open PySem PySem.W PyProof.Rows PySem.Calls
namespace Mine
theorem room_ok : callerA.depth + 1 + 3 < recursionLimit := by decide
theorem unit_ok : callerA.units + 3 + 64 < cLine := by decide
theorem facts_of {p : Program} {loose : List Str} {mean : ExcName → Option Value} {mg mb : Str → Option Value} {h : Heap} (T : Top p loose mean mg mb h)
    (hr : recsOf p = [recAt 1, recAt 4, recAt 6, recAt 7, recAt 8, recAt 9, recAt 10, recAt 11]) (hv : valOf p "TICK" = some (.str "'")) (hlo : loose = []) (hli : ∀ x ∈ (litsOf p).map (·.1), x ∈ (["TICK", "__name__"] : List Str)) (hcl : clssOf p loose = []) : Facts mg mb h where
  g := T.g
  b := T.b
  nolimit := T.nolimit
  blt := T.builtins
  miss := by
    intro x hx
    have hn : (recsOf p).map (·.name) = (["_parse_varint", "decode_rfc2231", "_law_numbers", "_law_octets", "_law_read", "_law_cut", "_law_due", "law"] : List Str) := by rw [hr]; rfl
    refine T.free x ?_ (by rw [hlo]; simp) ?_ ?_ (by rw [hcl]; simp)
    · have : ∀ x ∈ (["next", "len", "ord", "chr", "iter", "range", "isinstance", "list", "abs", "StopIteration"] : List Str), x ∉ startupNames := by decide
      exact this x hx
    · rw [hn]
      have : ∀ x ∈ (["next", "len", "ord", "chr", "iter", "range", "isinstance", "list", "abs", "StopIteration"] : List Str), x ∉ (["_parse_varint", "decode_rfc2231", "_law_numbers", "_law_octets", "_law_read", "_law_cut", "_law_due", "law"] : List Str) := by decide
      exact this x hx
    · have h1 : ∀ x ∈ (["next", "len", "ord", "chr", "iter", "range", "isinstance", "list", "abs", "StopIteration"] : List Str), x ∉ (["TICK", "__name__"] : List Str) := by decide
      exact fun q => h1 x hx (hli x q)
  tick := by
    obtain ⟨v, h1, h2⟩ := T.const "TICK" _ hv
    cases h2 h with
    | str _ t => exact ⟨t, h1⟩
  fn := by
    intro n hn
    refine T.fn (recAt n) ?_
    rw [hr]
    simp only [List.mem_cons, List.not_mem_nil, or_false] at hn
    rcases hn with rfl | rfl | rfl | rfl | rfl | rfl | rfl <;> simp
end Mine
end

open PySem PySem.W PyProof.Rows
set_option maxHeartbeats 8000000 in
theorem PySem.Challenge.cw_pe0012_01_holds : PySem.Challenge.rw_pe0012_01.Holds := by
  w_on
  o_law
  k_head
  (case hw => w_witness2)
  w_strict (k_go0; (rename Top _ _ _ _ _ _ => T'); (rename Fr _ _ _ _ => F'); (rename News _ _ _ _ => N'); (rename IntsAre _ _ => I'); (rename Heap.IsList _ _ _ => L'); (rename ¬ ((63 : Nat) : Int) < _ => C'); (refine Mine.law_all (hh := rfl) (hroom := Mine.room_ok) (hu := Mine.unit_ok) (hfr := rfl) (T := Mine.facts_of T' rfl rfl rfl (by decide) rfl) (S := ⟨F', ⟨_, (N' _ (.tail _ (.head _))).1, (by assumption)⟩, ⟨_, (N' _ (.head _)).1, (by assumption)⟩⟩) (hms := rfl) (hl := L') (hI := I') (hsz := by omega) (hok := ?_)); (intro h' tk' m' F''); close_w)

