import PyProof.Rows.All
import Wide.All
import OpenK.AllK
import Wide.FinOn
import PySem.Challenge.RW_wf0101_01
open PySem PySem.W PyProof.Rows
set_option Elab.async false
set_option maxRecDepth 100000
set_option linter.all false
set_option backward.match.sparseCases false
namespace Mine
noncomputable section
noncomputable abbrev pw:Program:=PySem.Challenge.pw_wf0101_01
noncomputable abbrev k (l:List Nat):PySem.Str:=⟨⟨l⟩⟩
noncomputable def st (i:Nat):Stmt:=(pw.main.body[i]?).getD default
noncomputable def fnP (i:Nat):Arguments:=match st i with | .FunctionDef _ a .. => a | _ => default
noncomputable def fnB (i:Nat):FuncBody:=match st i with | .FunctionDef _ _ b .. => .stmts b | _ => default
noncomputable def fnS (i:Nat):Scope:=match st i with | .FunctionDef (scope:=s) .. => s | _ => default
noncomputable def env:Env:={ scope:=pw.main.scope, locals:=mainNs, globals:=mainNs, cells:=[], code:=.ref 13, frame:=some 14 }
noncomputable def cd:Code:=.body (behindTheImports pw) env
noncomputable def q0:Pos:=⟨0, 0, 0, 0⟩
noncomputable def seg (a n:Nat):List Stmt:=((behindTheImports pw).drop a).take n
noncomputable abbrev BB:List Frame:=[topFrame q0]
noncomputable abbrev SG (w:World):=segGo treeTable pw w 11 (some (.ref 6)) 1
theorem sg_add {w:World}:∀ {n m:Nat} {s s':Shared} {t t':Thread} {r:Option (Shared × Thread)}, SG w n s t = some (s', t') → SG w m s' t' = r → SG w (n + m) s t = r
 | 0, m, s, s', t, t', r, h, k => by
  obtain ⟨rfl, rfl⟩:s = s' ∧ t = t':=by simpa [segGo] using h
  rw [Nat.zero_add];exact k
 | n + 1, m, s, s', t, t', r, h, k => by
  rw [show n + 1 + m = n + m + 1 by lia]
  unfold SG segGo at h
  unfold SG segGo
  cases he:endAt 1 t with
  | some l => rw [he] at h;cases h
  | none =>
   rw [he] at h
   cases hk:stepOk 11 (some (.ref 6)) t with
   | false => rw [hk] at h;cases h
   | true =>
    rw [hk] at h
    cases hs:step (denote treeTable) pw w s t with
    | halt o s₂ => rw [hs] at h;cases h
    | go s₂ t₂ => rw [hs] at h;exact sg_add (w:=w) h k
theorem sg_one {w:World} {s s':Shared} {t t':Thread} (he:endAt 1 t = none) (hk:stepOk 11 (some (.ref 6)) t = true) (hs:step (denote treeTable) pw w s t = .go s' t'):SG w 1 s t = some (s', t'):=by
 unfold SG segGo
 rw [he, hk, hs];rfl
noncomputable def G (w:World) {α:Type} (t:Sem α) (Q:α → Shared → Pos → Nat → Prop) (s:Shared) (p:Pos) (b:Nat):Prop :=
 ∀ (K:α → Sem Fin) (H:Value → Sem Fin) (lv:List Value → List Value), ∃ n a s' p' b', n + b' ≤ b ∧
  SG w n s ⟨t.wrap K H id lv, cd, p, BB⟩ = some (s', ⟨K a, cd, p', BB⟩) ∧ Q a s' p' b'
section
variable {w:World} {α β:Type} {s:Shared} {p:Pos} {b:Nat}
theorem G_pure {a:α} {Q:α → Shared → Pos → Nat → Prop} (h:Q a s p b):G w (pure a:Sem α) Q s p b:=fun K H lv => ⟨0, a, s, p, b, Nat.le_of_eq (Nat.zero_add _), rfl, h⟩
theorem G_le {t:Sem α} {c:Nat} {Q:α → Shared → Pos → Nat → Prop} (h:G w t Q s p b) (l:b ≤ c):G w t Q s p c:=fun K H lv => by
 obtain ⟨n, a, s', p', b', l', e, q⟩:=h K H lv
 exact ⟨n, a, s', p', b', Nat.le_trans l' l, e, q⟩
theorem G_mono {t:Sem α} {Q Q':α → Shared → Pos → Nat → Prop} (h:G w t Q s p b) (i:∀ a s p b, Q a s p b → Q' a s p b):G w t Q' s p b:=fun K H lv => by
 obtain ⟨n, a, s', p', b', l, e, q⟩:=h K H lv
 exact ⟨n, a, s', p', b', l, e, i _ _ _ _ q⟩
theorem G_bind {t:Sem α} {f:α → Sem β} {Q:β → Shared → Pos → Nat → Prop} (h:G w t (fun a s' p' b' => G w (f a) Q s' p' b') s p b):G w (t >>= f) Q s p b:=fun K H lv => by
 rw [Sem.bind_eq_wrap', Sem.wrap_wrap]
 obtain ⟨n, a, s', p', b', l, e, q⟩:=h (fun a => (f a).wrap K H id lv) (fun e => (Sem.raise e:Sem β).wrap K H id lv) lv
 obtain ⟨m, c, s'', p'', b'', l', e', q'⟩:=q K H lv
 exact ⟨n + m, c, s'', p'', b'', by lia, sg_add e e', q'⟩
theorem G_keep {t:Sem α} {vs:List Value} {Q:α → Shared → Pos → Nat → Prop} (h:G w t Q s p b):G w (t.keep vs) Q s p b:=fun K H lv => by
 rw [Sem.keep_eq_wrap, Sem.wrap_wrap]
 exact h K H fun l => lv (vs ++ l)
theorem G_holding {t:Sem α} {vs:List Value} {Q:α → Shared → Pos → Nat → Prop} (h:G w t Q s p b):G w (holding vs t) Q s p b:=by
 unfold holding
 split
 ·exact h
 ·exact G_keep h
theorem G_onRaise {t:Sem α} {f:Value → Sem Unit} {Q:α → Shared → Pos → Nat → Prop} (h:G w t Q s p b):G w (t.onRaise f) Q s p b:=fun K H lv => by
 rw [Sem.onRaise_eq_wrap, Sem.wrap_wrap]
 exact h K (fun e => ((f e).bind fun _ => (Sem.raise e:Sem α)).wrap K H id lv) lv
theorem G_at {q:Pos} {Q:Unit → Shared → Pos → Nat → Prop} (h:Q () s q b):G w (standAt q) Q s p (b + 1):=fun K H lv => ⟨1, (), s, q, b, Nat.le_of_eq (Nat.add_comm _ _), sg_one rfl rfl (by cases s;rfl), h⟩
theorem G_rule {r:String} {Q:Unit → Shared → Pos → Nat → Prop} (h:Q () s p b):G w (rule r) Q s p (b + 1):=fun K H lv => ⟨1, (), s, p, b, Nat.le_of_eq (Nat.add_comm _ _), sg_one rfl rfl (by cases s;rfl), h⟩
theorem G_point {Q:Unit → Shared → Pos → Nat → Prop} (h:Q () s p b):G w point Q s p (b + 1):=fun K H lv => ⟨1, (), s, p, b, Nat.le_of_eq (Nat.add_comm _ _), sg_one rfl rfl (by cases s;rfl), h⟩
theorem G_fresh {Q:Tok → Shared → Pos → Nat → Prop} (h:Q s.toks { s with toks:=s.toks + 1 } p b):G w fresh Q s p (b + 1):=fun K H lv => ⟨1, _, _, p, b, Nat.le_of_eq (Nat.add_comm _ _), sg_one rfl rfl (by cases s;rfl), h⟩
theorem G_mkInt {i:Int} {Q:Value → Shared → Pos → Nat → Prop} (h:Q (.int i s.toks) { s with toks:=s.toks + 1 } p b):G w (mkInt i) Q s p (b + 1):=G_bind (G_fresh (G_pure h))
theorem G_mkText {i:PySem.Str} {Q:Value → Shared → Pos → Nat → Prop} (h:Q (.str i s.toks) { s with toks:=s.toks + 1 } p b):G w (mkText i) Q s p (b + 1):=G_bind (G_fresh (G_pure h))
theorem G_alloc {o:Obj} {Q:Addr → Shared → Pos → Nat → Prop} (h:Q s.heap.objs.size { s with heap:=s.heap.push o } p b):G w (alloc o) Q s p (b + 1):=fun K H lv => ⟨1, _, _, p, b, Nat.le_of_eq (Nat.add_comm _ _), sg_one rfl rfl (by cases s;rfl), h⟩
theorem G_loadPart {a:Addr} {part:Option Value} {o:Obj} {Q:Obj → Shared → Pos → Nat → Prop} (ho:s.heap.get? a = some o) (h:Q o s p b):G w (loadPart a part) Q s p (b + 1):=fun K H lv =>
 ⟨1, o, s, p, b, Nat.le_of_eq (Nat.add_comm _ _), sg_one rfl rfl (by obtain ⟨hp, gs, d, tk, os⟩:=s;show (match hp.get? a with | some o => _ | none => _) = _;rw [show hp.get? a = some o from ho];rfl), h⟩
theorem G_updatePart {a:Addr} {part:Option Value} {f:Obj → Obj} {o:Obj} {Q:Unit → Shared → Pos → Nat → Prop} (hn:11 ≤ a) (ho:s.heap.get? a = some o) (h:Q () { s with heap:=s.heap.update a f } p b):G w (updatePart a part f) Q s p (b + 1):=fun K H lv =>
 ⟨1, (), _, p, b, Nat.le_of_eq (Nat.add_comm _ _), sg_one rfl (by
   have:Nat.ble 11 a = true:=Nat.ble_eq_true_of_le hn
   show (true && (Nat.ble 11 a || a == mainNs || a == cStatics || (some (Value.ref 6)) == some (Value.ref a))) = true
   rw [this];rfl) (by obtain ⟨hp, gs, d, tk, os⟩:=s;show (if (hp.get? a).isSome = true then _ else _) = _;rw [show hp.get? a = some o from ho];rfl), h⟩
theorem G_dictEntries {a:Addr} {part:Option Value} {c:Value} {d:Option Addr} {es:Array DictEntry} {n:Nat} {sl:Array (Option Value)} {Q:Array DictEntry → Shared → Pos → Nat → Prop} (ho:s.heap.get? a = some ⟨c, d, .dict es n, sl⟩) (h:Q es s p b):G w (dictEntries a part) Q s p (b + 1) :=
 G_bind (G_loadPart ho (G_pure h))
theorem G_dictEpoch {a:Addr} {part:Option Value} {c:Value} {d:Option Addr} {es:Array DictEntry} {n:Nat} {sl:Array (Option Value)} {Q:Nat → Shared → Pos → Nat → Prop} (ho:s.heap.get? a = some ⟨c, d, .dict es n, sl⟩) (h:Q n s p b):G w (dictEpoch a part) Q s p (b + 1) :=
 G_bind (G_loadPart ho (G_pure h))
theorem G_updateDictKeys {a:Addr} {f:Array DictEntry → Array DictEntry} {part:Option Value} {c:Value} {d:Option Addr} {es:Array DictEntry} {n:Nat} {sl:Array (Option Value)} {Q:Unit → Shared → Pos → Nat → Prop} (hn:11 ≤ a)
  (ho:s.heap.get? a = some ⟨c, d, .dict es n, sl⟩) (ho':(s.heap.update a (Obj.mapDictKeys f)).get? a = some ⟨c, d, .dict (f es) (n + 1), sl⟩) (hsz:(f es).size ≤ sizeLine) (h:Q () { s with heap:=s.heap.update a (Obj.mapDictKeys f) } p b):G w (updateDictKeys a f part) Q s p (b + 3):=by
 unfold updateDictKeys
 refine G_bind (G_loadPart ho ?_)
 show G w (do updatePart a part (Obj.mapDictKeys f);lookBehind a part) Q s p (b + 2)
 refine G_bind (G_updatePart hn ho ?_)
 unfold lookBehind
 refine G_bind (G_loadPart (s:={ s with heap:=s.heap.update a (Obj.mapDictKeys f) }) ho' ?_)
 have:(Data.dict (f es) (n + 1)).pastItsLine = none:=by
  show (if (f es).size > sizeLine + 1 then some "dict:memory" else none) = none
  rw [if_neg (by lia)]
 dsimp only
 rw [this]
 exact G_pure h
end
theorem hash_run0 (w:World) (i:Int) (tok:Tok) (heap:Heap) (gens:Array GenState) (drawn:Drawn) (toks:Nat) (os:OsState) (K:Int → Sem Fin) (H:Value → Sem Fin) (lv:List Value → List Value) (p:Pos) :
  SG w 5 ⟨heap, gens, drawn, toks, os⟩ ⟨(pyHash (.int i tok)).wrap K H id lv, cd, p, BB⟩ = some (⟨heap, gens, drawn, toks + 1, os⟩, ⟨(pyHashByItsType.reduced (rawHash i)).wrap K H id lv, cd, p, BB⟩):=by
 revert w
 refine byRow2 "special-get-raises" (fun w => ?_) (fun w => ?_)
 all_goals kernel_rfl!
theorem reduced_small {i:Int} (h0:0 ≤ i) (h1:i < 2 ^ 60):pyHashByItsType.reduced (rawHash i) = (pure i:Sem Int):=by
 have e:rawHash i = i:=by
  unfold rawHash
  have a:(i.natAbs % (2 ^ 61 - 1:Nat):Nat) = i.natAbs:=Nat.mod_eq_of_lt (by lia)
  have b:((i.natAbs:Int) % ((2 ^ 61 - 1:Nat):Int)) = i:=by
   rw [← Int.natCast_emod, a];lia
  simp only [b]
  rw [if_neg (by lia:¬ i < 0), if_neg (by simp;lia)]
 rw [e]
 unfold pyHashByItsType.reduced
 have c:(decide (-(2 ^ 63:Int) ≤ i) && decide (i < 2 ^ 63)) = true:=by simp;lia
 rw [c]
 have d:(i == -1) = false:=by simp;lia
 simp only [if_true, d, Bool.false_eq_true, if_false]
section
variable {w:World} {s:Shared} {p:Pos} {b:Nat}
theorem G_hash {i:Int} {tok:Tok} {Q:Int → Shared → Pos → Nat → Prop} (h0:0 ≤ i) (h1:i < 2 ^ 60) (h:Q i { s with toks:=s.toks + 1 } p b):G w (pyHash (.int i tok)) Q s p (b + 5):=fun K H lv => by
 obtain ⟨heap, gens, drawn, toks, os⟩:=s
 refine ⟨5, i, _, p, b, Nat.le_of_eq (Nat.add_comm _ _), ?_, h⟩
 rw [hash_run0, reduced_small h0 h1]
 rfl
theorem places_nil {es:List DictEntry} {i:Int} (h:∀ e ∈ es, e.hash ≠ i):placesWithHash es.toArray.size (fun j => es.toArray[j]?.map (·.hash)) i = []:=by
 unfold placesWithHash
 rw [List.filter_eq_nil_iff]
 intro j hj
 rw [List.mem_range] at hj
 simp only [List.size_toArray] at hj
 simp only [List.getElem?_toArray, List.getElem?_eq_getElem hj, Option.map_some, beq_iff_eq, Option.some.injEq]
 exact h _ (List.getElem_mem hj)
theorem G_find_none {a:Addr} {i:Int} {tok:Tok} {c:Value} {d:Option Addr} {es:List DictEntry} {n:Nat} {sl:Array (Option Value)} {Q:Option Nat → Shared → Pos → Nat → Prop}
  (ho:s.heap.get? a = some ⟨c, d, .dict es.toArray n, sl⟩) (hd:∀ e ∈ es, e.hash ≠ i) (h:Q none s p b):G w (dictFind a (.int i tok) i) Q s p (b + 1):=by
 unfold dictFind
 refine G_holding (G_bind (G_dictEntries ho ?_))
 dsimp only
 rw [places_nil hd]
 exact G_pure h
theorem G_set_new {a:Addr} {i:Int} {tok:Tok} {v:Value} {c:Value} {d:Option Addr} {es:List DictEntry} {n:Nat} {sl:Array (Option Value)} {Q:Unit → Shared → Pos → Nat → Prop} (hn:11 ≤ a) (h0:0 ≤ i) (h1:i < 2 ^ 60)
  (ho:s.heap.get? a = some ⟨c, d, .dict es.toArray n, sl⟩) (hd:∀ e ∈ es, e.hash ≠ i) (hsz:es.length < 1000)
  (ho':(s.heap.update a (Obj.mapDictKeys (·.push ⟨i, .int i tok, v⟩))).get? a = some ⟨c, d, .dict (es.toArray.push ⟨i, .int i tok, v⟩) (n + 1), sl⟩)
  (h:Q () { s with heap:=s.heap.update a (Obj.mapDictKeys (·.push ⟨i, .int i tok, v⟩)), toks:=s.toks + 1 } p b):G w (dictSet a (.int i tok) v) Q s p (b + 10):=by
 unfold dictSet
 refine G_holding (G_bind (G_hash h0 h1 ?_))
 unfold dictSetHashed
 refine G_holding (G_bind (G_find_none (s:={ s with toks:=s.toks + 1 }) ho hd ?_))
 refine G_bind (G_rule ?_)
 refine G_updateDictKeys (s:={ s with toks:=s.toks + 1 }) hn ho ho' ?_ h
 rw [Array.size_push, List.size_toArray, show sizeLine = 16777216 from rfl];lia
end
noncomputable def HL (l:List Obj):Heap:=⟨l.toArray, {}⟩
noncomputable def dO (es:List DictEntry):Obj:=⟨.type "dict", none, .dict es.toArray es.length, ⟨[]⟩⟩
theorem HL_size (l:List Obj):(HL l).objs.size = l.length:=by simp [HL]
theorem HL_push (l:List Obj) (o:Obj):(HL l).push o = HL (l ++ [o]):=by simp [HL, Heap.push]
theorem HL_get {l:List Obj} {a:Nat} {es:List DictEntry} (h:l[a]? = some (dO es)):(HL l).get? a = some (dO es):=by
 unfold Heap.get? HL
 rw [List.getElem?_toArray, h]
 rfl
theorem HL_update {l:List Obj} {a:Nat} {o:Obj} {f:Obj → Obj} (h:l[a]? = some o):(HL l).update a f = HL (l.set a (f o)):=by
 show (⟨l.toArray.modify a f, {}⟩:Heap) = ⟨(l.set a (f o)).toArray, {}⟩
 congr 1
 apply Array.ext'
 simp only [Array.toList_modify]
 apply List.ext_getElem?
 intro i
 rw [List.getElem?_modify, List.getElem?_set]
 by_cases hi:a = i
 ·subst hi
  have hl:a < l.length:=by
   rcases Nat.lt_or_ge a l.length with q | q
   ·exact q
   ·rw [List.getElem?_eq_none q] at h;cases h
  rw [h];simp [hl]
 ·simp [hi]
theorem dO_push (es:List DictEntry) (e:DictEntry):Obj.mapDictKeys (·.push e) (dO es) = dO (es ++ [e]):=by
 unfold dO
 rw [List.length_append, ← List.push_toArray]
 rfl
theorem set_last (l:List Obj) (a b:Obj):(l ++ [a]).set l.length b = l ++ [b]:=by simp
theorem get_last (l:List Obj) (a:Obj):(l ++ [a])[l.length]? = some a:=by simp
noncomputable abbrev Pair:=Int × PySem.Str
noncomputable def e3 (t:Nat):List Pair → List DictEntry
 | [] => []
 | (i, x) :: r => ⟨i, .int i t, .str x (t + 1)⟩ :: e3 (t + 3) r
noncomputable def e2 (t:Nat):List Pair → List DictEntry
 | [] => []
 | (i, x) :: r => ⟨i, .int i t, .str x (t + 1)⟩ :: e2 (t + 2) r
theorem e3_len (t:Nat) (r:List Pair):(e3 t r).length = r.length:=by
 induction r generalizing t with
 | nil => rfl
 | cons a r ih => exact congrArg (· + 1) (ih _)
theorem e2_len (t:Nat) (r:List Pair):(e2 t r).length = r.length:=by
 induction r generalizing t with
 | nil => rfl
 | cons a r ih => exact congrArg (· + 1) (ih _)
theorem e3_hash (t:Nat) (r:List Pair):(e3 t r).map (·.hash) = r.map (·.1):=by
 induction r generalizing t with
 | nil => rfl
 | cons a r ih => exact congrArg (a.1 :: ·) (ih _)
theorem e2_hash (t:Nat) (r:List Pair):(e2 t r).map (·.hash) = r.map (·.1):=by
 induction r generalizing t with
 | nil => rfl
 | cons a r ih => exact congrArg (a.1 :: ·) (ih _)
noncomputable def KeysOk (r:List Pair):Prop:=(r.map (·.1)).Nodup ∧ ∀ q ∈ r, 0 ≤ q.1 ∧ q.1 < 2 ^ 60
noncomputable abbrev semP (dp:Pos) (q:Pair):Sem Value × Sem Value:=(mkInt q.1, do let x ← mkText q.2;standAt dp;pure x)
section
variable {w:World} {gens:Array GenState} {drawn:Drawn} {os:OsState} {p:Pos} {b:Nat}
noncomputable abbrev Sh (gens:Array GenState) (drawn:Drawn) (os:OsState) (l:List Obj) (t:Nat):Shared:=⟨HL l, gens, drawn, t, os⟩
theorem G_put (dp:Pos) (l:List Obj) (hl:11 ≤ l.length) (es:List DictEntry) (q:Pair) (tok:Tok) (v:Value) (t:Nat) (h0:0 ≤ q.1 ∧ q.1 < 2 ^ 60) (hd:∀ e ∈ es, e.hash ≠ q.1) (hsz:es.length < 1000) {Q:Unit → Shared → Pos → Nat → Prop}
  (h:Q () (Sh gens drawn os (l ++ [dO (es ++ [⟨q.1, .int q.1 tok, v⟩])]) (t + 1)) p b):G w (dictSet l.length (.int q.1 tok) v) Q (Sh gens drawn os (l ++ [dO es]) t) p (b + 10):=by
 refine G_set_new (n:=es.length) (c:=.type "dict") (d:=none) (es:=es) (sl:=⟨[]⟩) hl h0.1 h0.2 (HL_get (get_last l _)) hd hsz ?_ ?_
 ·show Heap.get? ((HL (l ++ [dO es])).update l.length _) l.length = _
  rw [HL_update (get_last l _), set_last, dO_push, HL_get (get_last l _)]
  simp [dO]
 ·show Q () { heap:=(HL (l ++ [dO es])).update l.length _, gens:=gens, drawn:=drawn, toks:=t + 1, os:=os } p b
  rw [HL_update (get_last l _), set_last, dO_push]
  exact h
theorem G_long (dp:Pos) (l:List Obj) (hl:11 ≤ l.length):∀ (r:List Pair) (es:List DictEntry) (t:Nat) (p:Pos) (Q:PUnit → Shared → Pos → Nat → Prop), KeysOk r → (∀ q ∈ r, ∀ e ∈ es, e.hash ≠ q.1) → es.length + r.length < 1000 →
  Q PUnit.unit (Sh gens drawn os (l ++ [dO (es ++ e3 t r)]) (t + 3 * r.length)) (if r = [] then p else dp) b →
  G w (forIn (r.map (semP dp)) PUnit.unit fun (x:Sem Value × Sem Value) (_:PUnit) => (do let kv ← x.1;let vv ← holding [kv] x.2;holding [kv, vv] (dictSet l.length kv vv);pure (ForInStep.yield PUnit.unit):Sem (ForInStep PUnit))) Q (Sh gens drawn os (l ++ [dO es]) t) p (b + 13 * r.length)
 | [], es, t, p, Q, _, _, _, h => by
  rw [List.map_nil, List.forIn_nil]
  refine G_pure ?_
  simpa [show e3 t [] = [] from rfl] using h
 | q :: r, es, t, p, Q, hk, hd, hsz, h => by
  rw [List.map_cons, List.forIn_cons, show b + 13 * (q :: r).length = (b + 13 * r.length) + 13 by simp;lia]
  refine G_bind (G_bind (G_mkInt ?_))
  refine G_bind (G_holding (G_bind (G_mkText ?_)))
  refine G_bind (G_at (G_pure ?_))
  have hq:=hk.2 q (.head _)
  have hk':KeysOk r:=⟨(List.nodup_cons.mp hk.1).2, fun x hx => hk.2 x (.tail _ hx)⟩
  have hlen:es.length + (r.length + 1) < 1000:=by simpa using hsz
  refine G_bind (G_holding (G_put dp l hl es q t (.str q.2 (t + 1)) (t + 1 + 1) hq (hd q (.head _)) (by lia) (G_pure ?_)))
  refine G_long dp l hl r _ (t + 1 + 1 + 1) dp Q hk' ?_ (by simp;lia) ?_
  ·intro x hx e he
   rcases List.mem_append.mp he with m | m
   ·exact hd x (.tail _ hx) e m
   ·rw [List.mem_singleton] at m
    subst m
    intro e
    exact (List.nodup_cons.mp hk.1).1 (List.mem_map.mpr ⟨x, hx, e.symm⟩)
  ·rw [if_neg (by simp)] at h
   rw [show (if r = [] then dp else dp) = dp by split <;> rfl]
   have e1:t + 1 + 1 + 1 + 3 * r.length = t + 3 * (q :: r).length:=by simp;lia
   rw [e1, List.append_assoc]
   exact h
theorem G_evalPairs (dp:Pos) (l:List Obj):∀ (r:List Pair) (t:Nat) (p:Pos) (Q:List (Value × Value) → Shared → Pos → Nat → Prop),
  Q ((e2 t r).map fun e => (e.key, e.val)) (Sh gens drawn os l (t + 2 * r.length)) (if r = [] then p else dp) b → G w (evalPairs (r.map (semP dp))) Q (Sh gens drawn os l t) p (b + 3 * r.length)
 | [], t, p, Q, h => G_pure h
 | q :: r, t, p, Q, h => by
  rw [List.map_cons, evalPairs, show b + 3 * (q :: r).length = (b + 3 * r.length) + 3 by simp;lia]
  refine G_bind (G_mkInt ?_)
  refine G_bind (G_holding (G_bind (G_mkText ?_)))
  refine G_bind (G_at (G_pure ?_))
  refine G_bind (G_holding (G_evalPairs dp l r (t + 1 + 1) dp _ (G_pure ?_)))
  rw [if_neg (by simp)] at h
  rw [show (if r = [] then dp else dp) = dp by split <;> rfl]
  have e1:t + 1 + 1 + 2 * r.length = t + 2 * (q :: r).length:=by simp;lia
  rw [e1]
  exact h
theorem G_short (dp:Pos) (l:List Obj) (hl:11 ≤ l.length):∀ (r:List Pair) (t₀:Nat) (es:List DictEntry) (t:Nat) (p:Pos) (Q:PUnit → Shared → Pos → Nat → Prop), KeysOk r → (∀ q ∈ r, ∀ e ∈ es, e.hash ≠ q.1) → es.length + r.length < 1000 →
  Q PUnit.unit (Sh gens drawn os (l ++ [dO (es ++ e2 t₀ r)]) (t + r.length)) p b →
  G w (forIn ((e2 t₀ r).map fun e => (e.key, e.val)) PUnit.unit fun (x:Value × Value) (_:PUnit) => (do dictSet l.length x.1 x.2;pure (ForInStep.yield PUnit.unit):Sem (ForInStep PUnit))) Q (Sh gens drawn os (l ++ [dO es]) t) p (b + 10 * r.length)
 | [], t₀, es, t, p, Q, _, _, _, h => by
  rw [show e2 t₀ [] = [] from rfl, List.map_nil, List.forIn_nil]
  refine G_pure ?_
  simpa [show e2 t₀ [] = [] from rfl] using h
 | q :: r, t₀, es, t, p, Q, hk, hd, hsz, h => by
  rw [show e2 t₀ (q :: r) = ⟨q.1, .int q.1 t₀, .str q.2 (t₀ + 1)⟩ :: e2 (t₀ + 2) r from rfl, List.map_cons, List.forIn_cons, show b + 10 * (q :: r).length = (b + 10 * r.length) + 10 by simp;lia]
  have hq:=hk.2 q (.head _)
  have hk':KeysOk r:=⟨(List.nodup_cons.mp hk.1).2, fun x hx => hk.2 x (.tail _ hx)⟩
  have hlen:es.length + (r.length + 1) < 1000:=by simpa using hsz
  refine G_bind (G_bind (G_put dp l hl es q t₀ (.str q.2 (t₀ + 1)) t hq (hd q (.head _)) (by lia) (G_pure ?_)))
  refine G_short dp l hl r (t₀ + 2) _ (t + 1) p Q hk' ?_ (by simp;lia) ?_
  ·intro x hx e he
   rcases List.mem_append.mp he with m | m
   ·exact hd x (.tail _ hx) e m
   ·rw [List.mem_singleton] at m
    subst m
    intro e
    exact (List.nodup_cons.mp hk.1).1 (List.mem_map.mpr ⟨x, hx, e.symm⟩)
  ·have e1:t + 1 + r.length = t + (q :: r).length:=by simp;lia
   rw [e1, List.append_assoc]
   exact h
noncomputable def ents (t:Nat) (r:List Pair):List DictEntry:=if r.length ≤ 15 then e2 t r else e3 t r
theorem ents_len (t:Nat) (r:List Pair):(ents t r).length = r.length:=by unfold ents;split <;> simp [e2_len, e3_len]
theorem ents_hash (t:Nat) (r:List Pair):(ents t r).map (·.hash) = r.map (·.1):=by unfold ents;split <;> simp [e2_hash, e3_hash]
theorem G_sub (dp:Pos) (l:List Obj) (hl:11 ≤ l.length) (r:List Pair) (hr:r ≠ []) (t:Nat) (p:Pos) (Q:Addr → Shared → Pos → Nat → Prop) (hk:KeysOk r) (hsz:r.length < 1000)
  (h:Q l.length (Sh gens drawn os (l ++ [dO (ents t r)]) (t + 3 * r.length)) dp b):G w (subDict (r.map (semP dp))) Q (Sh gens drawn os l t) p (b + 13 * r.length + 2):=by
 unfold subDict
 refine G_bind (G_alloc ?_)
 show G w _ Q { heap:=(HL l).push _, gens:=gens, drawn:=drawn, toks:=t, os:=os } p (b + 13 * r.length + 1)
 rw [HL_push, show (Sh gens drawn os l t).heap.objs.size = l.length from HL_size l]
 refine G_bind (G_holding ?_)
 rw [List.length_map]
 unfold ents at h
 by_cases hlen:r.length ≤ 15
 ·rw [if_pos hlen] at h ⊢
  refine G_le (b:=(b + 10 * r.length) + 3 * r.length) ?_ (by lia)
  refine G_bind (G_evalPairs dp (l ++ [dO []]) r t p _ ?_)
  rw [if_neg hr]
  refine G_holding (G_bind (G_short dp l hl r t [] _ dp _ hk (fun _ _ _ he => nomatch he) (by simpa using hsz) (G_pure (G_pure ?_))))
  rw [show t + 2 * r.length + r.length = t + 3 * r.length by lia, List.nil_append]
  exact h
 ·rw [if_neg hlen] at h ⊢
  refine G_bind (G_rule ?_)
  refine G_bind (G_long dp l hl r [] t p _ hk (fun _ _ _ he => nomatch he) (by simpa using hsz) (G_pure (G_pure ?_)))
  rw [if_neg hr, List.nil_append]
  exact h
end
theorem sub_dict:isSubtype (.type "dict") (.type "dict") = (pure true:Sem Bool):=by kernel_rfl
theorem iter_dict:typeLookup (.type "dict") "__iter__" = (pure (some (.builtin "dict.__iter__")):Sem (Option Value)):=by kernel_rfl
section
variable {w:World} {gens:Array GenState} {drawn:Drawn} {os:OsState} {p:Pos} {b:Nat}
theorem G_typeOf {s:Shared} {a:Addr} {o:Obj} {Q:Value → Shared → Pos → Nat → Prop} (ho:s.heap.get? a = some o) (h:Q o.cls s p b):G w (typeOf (.ref a)) Q s p (b + 1):=G_bind (G_loadPart ho (G_pure h))
theorem G_put1 (l:List Obj) (m:Nat) (hm:11 ≤ m) (es:List DictEntry) (i:Int) (tok:Tok) (v:Value) (t:Nat) (he:l[m]? = some (dO es)) (hd:∀ e ∈ es, e.hash ≠ i) (hsz:es.length < 1000) {Q:Unit → Shared → Pos → Nat → Prop}
  (h:Q () (Sh gens drawn os (l.set m (dO (es ++ [⟨i, .int i tok, v⟩]))) t) p b):G w (dictPut m i (.int i tok) v) Q (Sh gens drawn os l t) p (b + 4):=by
 unfold dictPut
 have hlt:m < l.length:=by
  rcases Nat.lt_or_ge m l.length with q | q
  ·exact q
  ·rw [List.getElem?_eq_none q] at he;cases he
 refine G_bind (G_find_none (n:=es.length) (c:=.type "dict") (d:=none) (es:=es) (sl:=⟨[]⟩) (HL_get he) hd ?_)
 refine G_updateDictKeys (n:=es.length) (c:=.type "dict") (d:=none) (es:=es.toArray) (sl:=⟨[]⟩) hm (HL_get he) ?_ ?_ ?_
 ·show Heap.get? ((HL l).update m _) m = _
  rw [HL_update he, dO_push, HL_get (es:=es ++ [⟨i, .int i tok, v⟩]) (by simp [hlt])]
  simp [dO]
 ·rw [Array.size_push, List.size_toArray, show sizeLine = 16777216 from rfl];lia
 ·show Q () { heap:=(HL l).update m _, gens:=gens, drawn:=drawn, toks:=t, os:=os } p b
  rw [HL_update he, dO_push]
  exact h
theorem G_forIn {f:Nat → PUnit → Sem (ForInStep PUnit)} (I:Nat → Shared → Pos → Prop) (n c:Nat)
  (step:∀ i s p b, i < n → I i s p → G w (f i PUnit.unit) (fun r s' p' b' => r = .yield PUnit.unit ∧ I (i + 1) s' p' ∧ b' = b) s p (b + c)) :
  ∀ (k a:Nat) (s:Shared) (p:Pos) (b:Nat), a + k = n → I a s p → G w (forIn (List.range' a k) PUnit.unit f) (fun _ s' p' b' => I n s' p' ∧ b' = b) s p (b + c * k)
 | 0, a, s, p, b, e, h => by
  obtain rfl:a = n:=by lia
  rw [List.range'_zero, List.forIn_nil];exact G_pure ⟨h, rfl⟩
 | k + 1, a, s, p, b, e, h => by
  rw [List.range'_succ, List.forIn_cons, show b + c * (k + 1) = (b + c * k) + c by rw [Nat.mul_succ, Nat.add_assoc]]
  refine G_bind (G_mono (step a s p (b + c * k) (by lia) h) fun r s' p' b' h' => ?_)
  obtain ⟨rfl, h', rfl⟩:=h'
  exact G_forIn I n c step k (a + 1) s' p' b (by lia) h'
theorem G_merge (m a:Nat) (hm:11 ≤ m) (ha:11 ≤ a) (hma:m ≠ a) (es es2:List DictEntry) (hint:∀ e ∈ es2, ∃ tok, e.key = .int e.hash tok) (t:Nat) (l:List Obj) (Q:Unit → Shared → Pos → Nat → Prop)
  (hne:es ≠ []) (h1:l[m]? = some (dO es)) (h2:l[a]? = some (dO es2)) (hd:∀ e ∈ es2, ∀ e' ∈ es, e'.hash ≠ e.hash) (hn:(es2.map (·.hash)).Nodup) (hsz:es.length + es2.length < 1000)
  (h:Q () (Sh gens drawn os (l.set m (dO (es ++ es2))) t) p b):G w (mergeMapping m (.ref a) false) Q (Sh gens drawn os l t) p (b + 6 * es2.length + 5):=by
 have hlt:m < l.length:=by
  rcases Nat.lt_or_ge m l.length with q | q
  ·exact q
  ·rw [List.getElem?_eq_none q] at h1;cases h1
 unfold mergeMapping isInstance
 refine G_bind (G_bind (G_typeOf (HL_get h2) ?_))
 rw [show (dO es2).cls = .type "dict" from rfl, sub_dict]
 refine G_pure ?_
 rw [if_pos rfl]
 unfold specialOf
 refine G_bind (G_bind (G_typeOf (HL_get h2) ?_))
 rw [show (dO es2).cls = .type "dict" from rfl, iter_dict]
 refine G_pure (G_bind (G_pure ?_))
 rw [show ((some (Value.builtin "dict.__iter__")) == some (Value.builtin "dict.__iter__")) = true by decide]
 dsimp only
 rw [if_neg (by rw [beq_iff_eq];intro e;rw [e] at ha;revert ha;decide)]
 refine G_bind (G_dictEntries (HL_get h1) ?_)
 rw [if_neg (by simpa using hne)]
 refine G_bind (G_dictEntries (HL_get h2) ?_)
 refine G_bind (G_dictEpoch (HL_get h2) ?_)
 rw [List.size_toArray, List.range_eq_range']
 refine G_bind (G_mono (G_forIn (fun i s p' => s = Sh gens drawn os (l.set m (dO (es ++ es2.take i))) t ∧ p' = p) es2.length 6 ?_ es2.length 0 _ _ b (by lia) ⟨?_, rfl⟩) ?_)
 ·rintro i s p' b hi ⟨rfl, rfl⟩
  have ha':(l.set m (dO (es ++ es2.take i)))[a]? = some (dO es2):=by rw [List.getElem?_set];simp [hma, h2]
  have hm':(l.set m (dO (es ++ es2.take i)))[m]? = some (dO (es ++ es2.take i)):=by simp [hlt]
  refine G_bind (G_dictEntries (HL_get ha') ?_)
  rw [List.getElem?_toArray, List.getElem?_eq_getElem hi]
  dsimp only
  obtain ⟨tok, ek⟩:=hint _ (List.getElem_mem hi)
  have hput:=G_put1 (w:=w) (gens:=gens) (drawn:=drawn) (os:=os) (p:=p') (b:=b + 1) (l.set m (dO (es ++ es2.take i))) m hm (es ++ es2.take i) es2[i].hash tok es2[i].val t hm' ?_ ?_ (Q:=fun _ s' q' b' => s' = Sh gens drawn os (l.set m (dO (es ++ es2.take (i + 1)))) t ∧ q' = p' ∧ b' = b + 1) ⟨?_, rfl, rfl⟩
  ·refine G_bind (G_holding ?_)
   rw [if_neg Bool.false_ne_true, ek]
   refine G_mono hput ?_
   rintro _ s' q' b' ⟨rfl, rfl, rfl⟩
   have ha'':(l.set m (dO (es ++ es2.take (i + 1))))[a]? = some (dO es2):=by rw [List.getElem?_set];simp [hma, h2]
   refine G_bind (G_dictEpoch (HL_get ha'') ?_)
   rw [if_neg (by simp)]
   exact G_pure ⟨rfl, ⟨rfl, rfl⟩, rfl⟩
  ·intro e he
   rcases List.mem_append.mp he with q | q
   ·exact hd _ (List.getElem_mem hi) e q
   ·obtain ⟨j, hj, rfl⟩:=List.mem_iff_getElem.mp q
    rw [List.length_take] at hj
    rw [List.getElem_take]
    intro hh
    have:=(List.getElem_inj (h₀:=by simpa using (by lia:j < es2.length)) (h₁:=by simpa using hi) hn).mp (by simpa using hh)
    lia
  ·simp [List.length_take];lia
  ·rw [List.set_set, List.take_succ_eq_append_getElem hi, List.append_assoc]
   congr 1
   congr 1
   congr 1
   congr 1
   congr 1
   rw [← ek]
 ·congr 1
  rw [List.take_zero, List.append_nil]
  congr 1
  apply List.ext_getElem?
  intro i
  rw [List.getElem?_set]
  by_cases hi:m = i
  ·subst hi;rw [h1];simp [hlt]
  ·simp [hi]
 ·rintro _ s' p' b' ⟨⟨rfl, rfl⟩, rfl⟩
  rw [List.take_length]
  exact G_pure h
end
noncomputable def flushD (run:List (Sem Value × Sem Value)) (main:Option Addr):Sem (Option Addr):=do
  if run.isEmpty then return main
  match main with
  | none => return some (← subDict run)
  | some d =>
   let sub ← holding [.ref d] (subDict run)
   (holding [.ref d, .ref sub] (mergeMapping d (.ref sub) false)).onRaise fun x => do let _ ← holding [.ref d, x] (runValue (.builtin "proto.let_go" {}))
   return some d
noncomputable abbrev DSt:=Option Addr × List (Sem Value × Sem Value)
noncomputable def turnD (x:Option (Sem Value) × Sem Value) (st:DSt):Sem (ForInStep DSt) :=
  match x.1 with
  | some k =>
   if (st.2 ++ [(k, x.2)]).length == 17 then (do let m ← flushD (st.2 ++ [(k, x.2)]) st.1;pure (.yield (m, []))) else pure (.yield (st.1, st.2 ++ [(k, x.2)]))
  | none => unsupported ""
theorem forIn_cong {α β:Type} {f g:α → β → Sem (ForInStep β)}:∀ (l:List α) (b:β), (∀ x ∈ l, ∀ b, f x b = g x b) → forIn l b f = forIn l b g
 | [], _, _ => rfl
 | a :: l, b, h => by
  rw [List.forIn_cons, List.forIn_cons, h a (.head _)]
  congr 1
  funext r
  cases r with
  | done b => rfl
  | «yield» b => exact forIn_cong l b fun x hx => h x (.tail _ hx)
theorem display_eq (l:List (Sem Value × Sem Value)):dictDisplay (l.map fun p => (some p.1, p.2)) = (do
  let st ← forIn (l.map fun p => (some p.1, p.2)) ((none:Option Addr), ([]:List (Sem Value × Sem Value))) turnD
  match ← flushD st.2 st.1 with
  | some d => pure (.ref d)
  | none => newDict):=by
 unfold dictDisplay
 dsimp only
 rw [forIn_cong (g:=turnD) _ _ ?_]
 ·rfl
 ·intro x hx b
  obtain ⟨q, _, rfl⟩:=List.mem_map.mp hx
  unfold turnD
  dsimp only
  split <;> rfl
section
variable {w:World} {gens:Array GenState} {drawn:Drawn} {os:OsState} {p:Pos} {s:Shared} {b:Nat}
noncomputable abbrev itm (dp:Pos) (q:Pair):Option (Sem Value) × Sem Value:=(some (semP dp q).1, (semP dp q).2)
theorem G_gather (dp:Pos) (rest:List (Option (Sem Value) × Sem Value)) (main:Option Addr) (Q:DSt → Shared → Pos → Nat → Prop):∀ (c run:List Pair), run.length + c.length = 17 → c ≠ [] →
  G w (flushD ((run ++ c).map (semP dp)) main) (fun m s' p' b' => G w (forIn rest (m, ([]:List (Sem Value × Sem Value))) turnD) Q s' p' b') s p b →
  G w (forIn (c.map (itm dp) ++ rest) (main, run.map (semP dp)) turnD) Q s p b
 | [], _, _, h, _ => absurd rfl h
 | q :: c, run, hl, _, h => by
  rw [List.map_cons, List.cons_append, List.forIn_cons]
  have e:run.map (semP dp) ++ [((semP dp q).1, (semP dp q).2)] = (run ++ [q]).map (semP dp):=by simp
  unfold turnD
  dsimp only
  by_cases hc:c = []
  ·subst hc
   have hlen:(run.map (semP dp) ++ [((semP dp q).1, (semP dp q).2)]).length = 17:=by simp at hl ⊢;lia
   rw [hlen, if_pos (by decide)]
   refine G_bind (G_bind ?_)
   rw [e]
   refine G_mono h fun m s' p' b' h' => G_pure ?_
   exact h'
  ·have hlen:((run.map (semP dp) ++ [((semP dp q).1, (semP dp q).2)]).length == 17) = false:=by
    have:0 < c.length:=List.length_pos_iff.mpr hc
    simp at hl ⊢;lia
   rw [hlen, if_neg Bool.false_ne_true]
   refine G_bind (G_pure ?_)
   dsimp only
   rw [e]
   refine G_gather dp rest main Q c (run ++ [q]) (by simp at hl ⊢;lia) hc ?_
   rw [List.append_assoc]
   exact h
theorem G_gather_end (dp:Pos) (main:Option Addr) (Q:DSt → Shared → Pos → Nat → Prop):∀ (c run:List Pair), run.length + c.length < 17 →
  Q (main, (run ++ c).map (semP dp)) s p b → G w (forIn (c.map (itm dp)) (main, run.map (semP dp)) turnD) Q s p b
 | [], run, _, h => by
  rw [List.map_nil, List.forIn_nil]
  exact G_pure (by simpa using h)
 | q :: c, run, hl, h => by
  rw [List.map_cons, List.forIn_cons]
  have e:run.map (semP dp) ++ [((semP dp q).1, (semP dp q).2)] = (run ++ [q]).map (semP dp):=by simp
  unfold turnD
  dsimp only
  have hlen:((run.map (semP dp) ++ [((semP dp q).1, (semP dp q).2)]).length == 17) = false:=by simp at hl ⊢;lia
  rw [hlen, if_neg Bool.false_ne_true]
  refine G_bind (G_pure ?_)
  dsimp only
  rw [e]
  refine G_gather_end dp main Q c (run ++ [q]) (by simp at hl ⊢;lia) ?_
  rw [List.append_assoc]
  exact h
theorem G_flush1 (dp:Pos) (l:List Obj) (hl:11 ≤ l.length) (r:List Pair) (hr:r ≠ []) (t:Nat) (Q:Option Addr → Shared → Pos → Nat → Prop) (hk:KeysOk r) (hsz:r.length < 1000)
  (h:Q (some l.length) (Sh gens drawn os (l ++ [dO (ents t r)]) (t + 3 * r.length)) dp b):G w (flushD (r.map (semP dp)) none) Q (Sh gens drawn os l t) p (b + 13 * r.length + 2):=by
 unfold flushD
 rw [if_neg (by simpa using hr)]
 exact G_bind (G_sub dp l hl r hr t p _ hk hsz (G_pure h))
theorem ents_int (t:Nat) (r:List Pair):∀ e ∈ ents t r, ∃ tok, e.key = .int e.hash tok:=by
 unfold ents
 have h3:∀ (r:List Pair) (t:Nat), ∀ e ∈ e3 t r, ∃ tok, e.key = .int e.hash tok:=by
  intro r
  induction r with
  | nil => intro t e he;cases he
  | cons a r ih =>
   intro t e he
   obtain ⟨i, x⟩:=a
   rcases List.mem_cons.mp he with rfl | he
   ·exact ⟨_, rfl⟩
   ·exact ih _ e he
 have h2:∀ (r:List Pair) (t:Nat), ∀ e ∈ e2 t r, ∃ tok, e.key = .int e.hash tok:=by
  intro r
  induction r with
  | nil => intro t e he;cases he
  | cons a r ih =>
   intro t e he
   obtain ⟨i, x⟩:=a
   rcases List.mem_cons.mp he with rfl | he
   ·exact ⟨_, rfl⟩
   ·exact ih _ e he
 split
 ·exact h2 r t
 ·exact h3 r t
theorem G_flush2 (dp:Pos) (l subs:List Obj) (hl:11 ≤ l.length) (es:List DictEntry) (hes:es ≠ []) (r:List Pair) (hr:r ≠ []) (t:Nat) (Q:Option Addr → Shared → Pos → Nat → Prop) (hk:KeysOk r) (hd:∀ q ∈ r, ∀ e ∈ es, e.hash ≠ q.1) (hsz:es.length + r.length < 1000)
  (h:Q (some l.length) (Sh gens drawn os (l ++ dO (es ++ ents t r) :: (subs ++ [dO (ents t r)])) (t + 3 * r.length)) dp b):G w (flushD (r.map (semP dp)) (some l.length)) Q (Sh gens drawn os (l ++ dO es :: subs) t) p (b + 6 * r.length + 5 + 13 * r.length + 2):=by
 unfold flushD
 rw [if_neg (by simpa using hr), show b + 6 * r.length + 5 + 13 * r.length + 2 = (b + 6 * (ents t r).length + 5) + 13 * r.length + 2 by rw [ents_len t r]]
 refine G_bind (G_holding (G_sub dp (l ++ dO es :: subs) (by simp;lia) r hr t p _ hk (by lia) ?_))
 refine G_bind (G_onRaise (G_holding (G_merge l.length (l ++ dO es :: subs).length hl (by simp;lia) (by simp) es (ents t r) (ents_int t r) (t + 3 * r.length) _ _ hes (by simp) (by simp) ?_ ?_ ?_ (G_pure ?_))))
 ·intro e he e' he'
  obtain ⟨q, hq, hh⟩:=List.mem_map.mp (by rw [← ents_hash t r];exact List.mem_map.mpr ⟨e, he, rfl⟩:e.hash ∈ r.map (·.1))
  rw [← hh]
  exact hd q hq e' he'
 ·rw [ents_hash];exact hk.1
 ·rw [ents_len];exact hsz
 ·have e:((l ++ dO es :: subs) ++ [dO (ents t r)]).set l.length (dO (es ++ ents t r)) = l ++ dO (es ++ ents t r) :: (subs ++ [dO (ents t r)]):=by simp
  rw [e]
  exact h
noncomputable def outE:Nat → List (List Pair) → List DictEntry
 | _, [] => []
 | t, c :: cs => ents t c ++ outE (t + 3 * c.length) cs
noncomputable def outS:Nat → List (List Pair) → List Obj
 | _, [] => []
 | t, c :: cs => dO (ents t c) :: outS (t + 3 * c.length) cs
theorem outE_c {t:Nat} {c:List Pair} {cs:List (List Pair)}:outE t (c :: cs) = ents t c ++ outE (t + 3 * c.length) cs:=rfl
theorem outS_c {t:Nat} {c:List Pair} {cs:List (List Pair)}:outS t (c :: cs) = dO (ents t c) :: outS (t + 3 * c.length) cs:=rfl
theorem outE_hash:∀ (t:Nat) (cs:List (List Pair)), (outE t cs).map (·.hash) = cs.flatten.map (·.1)
 | _, [] => rfl
 | t, c :: cs => by rw [outE_c, List.map_append, ents_hash, outE_hash, List.flatten_cons, List.map_append]
theorem KeysOk.left {a b:List Pair} (h:KeysOk (a ++ b)):KeysOk a:=⟨by have:=h.1;rw [List.map_append] at this;exact (List.nodup_append.mp this).1, fun q hq => h.2 q (List.mem_append_left _ hq)⟩
theorem KeysOk.right {a b:List Pair} (h:KeysOk (a ++ b)):KeysOk b:=⟨by have:=h.1;rw [List.map_append] at this;exact (List.nodup_append.mp this).2.1, fun q hq => h.2 q (List.mem_append_right _ hq)⟩
theorem KeysOk.apart {a b:List Pair} (h:KeysOk (a ++ b)):∀ q ∈ b, ∀ x ∈ a, x.1 ≠ q.1:=fun q hq x hx e => by
 have:=h.1
 rw [List.map_append] at this
 exact (List.nodup_append.mp this).2.2 x.1 (List.mem_map.mpr ⟨x, hx, rfl⟩) q.1 (List.mem_map.mpr ⟨q, hq, rfl⟩) e
noncomputable def finD (st:DSt):Sem Value:=do
 match ← flushD st.2 st.1 with
 | some d => pure (.ref d)
 | none => newDict
theorem G_rest (dp:Pos) (l:List Obj) (hl:11 ≤ l.length) (lst:List Pair) (hlst:lst ≠ []) (hlst':lst.length < 17) (Q:Value → Shared → Pos → Nat → Prop) :
  ∀ (cs:List (List Pair)) (es:List DictEntry) (subs:List Obj) (t:Nat) (p:Pos) (old:List Pair), es ≠ [] → es.map (·.hash) = old.map (·.1) → (∀ c ∈ cs, c.length = 17) → KeysOk (old ++ (cs.flatten ++ lst)) → (old ++ (cs.flatten ++ lst)).length < 1000 →
  Q (.ref l.length) (Sh gens drawn os (l ++ dO (es ++ outE t (cs ++ [lst])) :: (subs ++ outS t (cs ++ [lst]))) (t + 3 * (cs.flatten ++ lst).length)) dp b →
  G w (forIn ((cs.flatten ++ lst).map (itm dp)) (some l.length, ([]:List (Sem Value × Sem Value))) turnD) (fun st s' p' b' => G w (finD st) Q s' p' b') (Sh gens drawn os (l ++ dO es :: subs) t) p (b + 26 * (cs.flatten ++ lst).length)
 | [], es, subs, t, p, old, hes, heq, hc, hk, hsz, h => by
  rw [List.flatten_nil, List.nil_append]
  have hpos:0 < lst.length:=List.length_pos_iff.mpr hlst
  refine G_le (b:=b + 6 * lst.length + 5 + 13 * lst.length + 2) ?_ (by lia)
  refine G_gather_end dp (some l.length) _ lst [] (by simpa using hlst') ?_
  rw [List.nil_append]
  have hd:∀ q ∈ lst, ∀ e ∈ es, e.hash ≠ q.1:=fun q hq e he hh => by
   obtain ⟨x, hx, hxx⟩:=List.mem_map.mp (by rw [← heq];exact List.mem_map.mpr ⟨e, he, rfl⟩:e.hash ∈ old.map (·.1))
   rw [← hxx] at hh
   exact hk.apart q (by simpa using hq) x hx hh
  have hel:es.length = old.length:=by have:=congrArg List.length heq;simpa using this
  refine G_bind (G_flush2 dp l subs hl es hes lst hlst t _ (by simpa using hk.right) hd (by simp at hsz;lia) (G_pure ?_))
  simpa [show ∀ t, outE t [] = [] from fun _ => rfl, show ∀ t, outS t [] = [] from fun _ => rfl, outE_c, outS_c] using h
 | c :: cs, es, subs, t, p, old, hes, heq, hc, hk, hsz, h => by
  have hcl:c.length = 17:=hc c (.head _)
  have hcn:c ≠ []:=by intro e;rw [e] at hcl;cases hcl
  rw [List.flatten_cons, List.append_assoc, List.map_append]
  refine G_le (b:=(b + 26 * (cs.flatten ++ lst).length) + 6 * c.length + 5 + 13 * c.length + 2) ?_ (by simp;lia)
  refine G_gather dp _ (some l.length) _ c [] (by simpa using hcl) hcn ?_
  rw [List.nil_append]
  rw [List.flatten_cons, List.append_assoc] at hk hsz
  have hd:∀ q ∈ c, ∀ e ∈ es, e.hash ≠ q.1:=fun q hq e he hh => by
   obtain ⟨x, hx, hxx⟩:=List.mem_map.mp (by rw [← heq];exact List.mem_map.mpr ⟨e, he, rfl⟩:e.hash ∈ old.map (·.1))
   rw [← hxx] at hh
   exact hk.apart q (List.mem_append_left _ hq) x hx hh
  have hel:es.length = old.length:=by have:=congrArg List.length heq;simpa using this
  refine G_flush2 dp l subs hl es hes c hcn t _ hk.right.left hd (by simp at hsz;lia) ?_
  have ih:=G_rest dp l hl lst hlst hlst' Q cs (es ++ ents t c) (subs ++ [dO (ents t c)]) (t + 3 * c.length) dp (old ++ c) (by simp [hes]) (by rw [List.map_append, List.map_append, heq, ents_hash]) (fun x hx => hc x (.tail _ hx)) (by simpa using hk) (by simpa using hsz) ?_
  ·exact ih
  ·have e1:t + 3 * c.length + 3 * (cs.flatten ++ lst).length = t + 3 * ((c :: cs).flatten ++ lst).length:=by simp;lia
   rw [e1]
   simpa [outE_c, outS_c] using h
theorem G_display (dp:Pos) (l:List Obj) (hl:11 ≤ l.length) (c:List Pair) (cs:List (List Pair)) (lst:List Pair) (hc:∀ x ∈ c :: cs, x.length = 17) (hlst:lst ≠ []) (hlst':lst.length < 17) (hk:KeysOk (c ++ (cs.flatten ++ lst)))
  (hsz:(c ++ (cs.flatten ++ lst)).length < 1000) (Q:Value → Shared → Pos → Nat → Prop) (t:Nat) (p:Pos)
  (h:Q (.ref l.length) (Sh gens drawn os (l ++ dO (outE t (c :: (cs ++ [lst]))) :: outS (t + 3 * c.length) (cs ++ [lst])) (t + 3 * (c ++ (cs.flatten ++ lst)).length)) dp b) :
  G w (dictDisplay ((c ++ (cs.flatten ++ lst)).map (itm dp))) Q (Sh gens drawn os l t) p (b + 26 * (c ++ (cs.flatten ++ lst)).length):=by
 have hcl:c.length = 17:=hc c (.head _)
 have hcn:c ≠ []:=by intro e;rw [e] at hcl;cases hcl
 have e:=display_eq ((c ++ (cs.flatten ++ lst)).map (semP dp))
 rw [List.map_map] at e
 have e':dictDisplay ((c ++ (cs.flatten ++ lst)).map (itm dp)) = _:=e
 rw [e']
 refine G_bind ?_
 show G w (forIn ((c ++ (cs.flatten ++ lst)).map (itm dp)) _ turnD) (fun st s' p' b' => G w (finD st) Q s' p' b') _ _ _
 rw [List.map_append]
 refine G_le (b:=(b + 26 * (cs.flatten ++ lst).length) + 13 * c.length + 2) ?_ (by simp;lia)
 refine G_gather dp _ none _ c [] (by simpa using hcl) hcn ?_
 rw [List.nil_append]
 refine G_flush1 dp l hl c hcn t _ hk.left (by simp at hsz;lia) ?_
 refine G_rest dp l hl lst hlst hlst' Q cs (ents t c) [] (t + 3 * c.length) dp c ?_ (ents_hash t c) (fun x hx => hc x (.tail _ hx)) hk hsz ?_
 ·intro e
  have:=ents_len t c
  rw [e, hcl] at this
  cases this
 ·have e1:t + 3 * c.length + 3 * (cs.flatten ++ lst).length = t + 3 * (c ++ (cs.flatten ++ lst)).length:=by simp;lia
  rw [e1, List.nil_append]
  exact h
end
noncomputable def zipP:List (Option Expr) → List Expr → List Pair
 | some (.Constant (.int i) _ _) :: ks, .Constant (.str x) _ _ :: vs => (i, x) :: zipP ks vs
 | _, _ => []
noncomputable def b3all:List Pair:=match st 11 with | .Assign _ (.Dict ks vs _) _ => zipP ks vs | _ => []
noncomputable def b3c:List Pair:=b3all.take 17
noncomputable def b3cs:List (List Pair):=(List.range 37).map fun i => (b3all.drop (17 * (i + 1))).take 17
noncomputable def b3l:List Pair:=b3all.drop 646
noncomputable def b3objs:List Obj:=dO (outE 343 (b3c :: (b3cs ++ [b3l]))) :: outS (343 + 3 * 17) (b3cs ++ [b3l])
noncomputable def b3o (i:Nat) (_:Params):Obj:=(b3objs[i]?).getD default
noncomputable def o11v0 (P:Params):Obj:=⟨(.type "tuple"),none,(.seq ⟨[]⟩ 0),⟨[]⟩⟩
noncomputable def o12v1 (P:Params):Obj:=⟨.none,none,(.fields ⟨[]⟩),⟨[]⟩⟩
noncomputable def o13v2 (P:Params):Obj:=⟨(.type "code"),none,(.fields ⟨[(.str (k [60,109,111,100,117,108,101,62]) 182),(.str (k [60,109,111,100,117,108,101,62]) 183),(.str (k [47,99,108,97,105,109,47,99,117,116,46,112,121]) 184),(.int (1) 0),(.int (0) 0),(.int (0) 0),(.int (0) 0),(.int (0) 0),(.ref 11),(.bool false),(.int (181) 0),(.ref 12),.none,.none,.none,.none,(.int (185) 0),(.int (1) 0),(.str (k [47,99,108,97,105,109,47,99,117,116,46,112,121]) 186)]⟩),⟨[]⟩⟩
noncomputable def o14v3 (P:Params):Obj:=⟨(.type "frame"),none,.plain,⟨[(some (.ref 13)),(some (.ref 3)),(some (.ref 3)),none,(some (.str (k [95,95,109,97,105,110,95,95]) 164)),none,(some (.ref 0))]⟩⟩
noncomputable def TS0 (P:Params):BT:=(.node (boot_o_0 P) (.node (boot_o_1 P) (.node (boot_o_3 P) (.node (boot_o_7 P) .nil .nil) (.node (o11v0 P) .nil .nil)) (.node (boot_o_5 P) (.node (boot_o_9 P) .nil .nil) (.node (o13v2 P) .nil .nil))) (.node (boot_o_2 P) (.node (boot_o_4 P) (.node (boot_o_8 P) .nil .nil) (.node (o12v1 P) .nil .nil)) (.node (boot_o_6 P) (.node (boot_o_10 P) .nil .nil) (.node (o14v3 P) .nil .nil))))
noncomputable def S0 (w:World) (os:OsState):SharedT:=⟨TS0 w.params,15,{},⟨[]⟩,{},187,os⟩
noncomputable def posS0:Pos:=⟨0,0,0,0⟩
noncomputable def g0 (P:Params):DictEntry:=⟨PyData.keyHash P (k [95,95,110,97,109,101,95,95]),(.str (k [95,95,110,97,109,101,95,95]) 165),(.str (k [99,112,121,51,49,51,46,115,116,114,105,110,103,112,114,101,112]) 274)⟩
noncomputable def g1 (P:Params):DictEntry:=⟨PyData.keyHash P (k [95,95,100,111,99,95,95]),(.str (k [95,95,100,111,99,95,95]) 166),.none⟩
noncomputable def g2 (P:Params):DictEntry:=⟨PyData.keyHash P (k [95,95,112,97,99,107,97,103,101,95,95]),(.str (k [95,95,112,97,99,107,97,103,101,95,95]) 167),.none⟩
noncomputable def g3 (P:Params):DictEntry:=⟨PyData.keyHash P (k [95,95,108,111,97,100,101,114,95,95]),(.str (k [95,95,108,111,97,100,101,114,95,95]) 168),(.builtin "__main__.__loader__#opaque")⟩
noncomputable def g4 (P:Params):DictEntry:=⟨PyData.keyHash P (k [95,95,115,112,101,99,95,95]),(.str (k [95,95,115,112,101,99,95,95]) 169),.none⟩
noncomputable def g5 (P:Params):DictEntry:=⟨PyData.keyHash P (k [95,95,97,110,110,111,116,97,116,105,111,110,115,95,95]),(.str (k [95,95,97,110,110,111,116,97,116,105,111,110,115,95,95]) 170),(.ref 6)⟩
noncomputable def g6 (P:Params):DictEntry:=⟨PyData.keyHash P (k [95,95,98,117,105,108,116,105,110,115,95,95]),(.str (k [95,95,98,117,105,108,116,105,110,115,95,95]) 171),(.ref 4)⟩
noncomputable def g7 (P:Params):DictEntry:=⟨PyData.keyHash P (k [95,95,102,105,108,101,95,95]),(.str (k [95,95,102,105,108,101,95,95]) 173),(.str (k [47,99,108,97,105,109,47,99,117,116,46,112,121]) 172)⟩
noncomputable def g8 (P:Params):DictEntry:=⟨PyData.keyHash P (k [95,95,99,97,99,104,101,100,95,95]),(.str (k [95,95,99,97,99,104,101,100,95,95]) 174),.none⟩
noncomputable def g9 (P:Params):DictEntry:=⟨PyData.keyHash P (k [95,105,116,101,114,95,101,115,99,97,112,101,100,95,99,104,97,114,115]),(.str (k [95,105,116,101,114,95,101,115,99,97,112,101,100,95,99,104,97,114,115]) 198),(.ref 21)⟩
noncomputable def g10 (P:Params):DictEntry:=⟨PyData.keyHash P (k [95,115,116,114,105,112,95,113,117,111,116,101,100,95,114,101,97,108,110,97,109,101,115]),(.str (k [95,115,116,114,105,112,95,113,117,111,116,101,100,95,114,101,97,108,110,97,109,101,115]) 210),(.ref 28)⟩
noncomputable def g11 (P:Params):DictEntry:=⟨PyData.keyHash P (k [95,99,104,101,99,107,95,112,97,114,101,110,116,104,101,115,105,115]),(.str (k [95,99,104,101,99,107,95,112,97,114,101,110,116,104,101,115,105,115]) 220),(.ref 35)⟩
noncomputable def g12 (P:Params):DictEntry:=⟨PyData.keyHash P (k [114,103,98,95,116,111,95,104,108,115]),(.str (k [114,103,98,95,116,111,95,104,108,115]) 241),(.ref 42)⟩
noncomputable def g13 (P:Params):DictEntry:=⟨PyData.keyHash P (k [114,103,98,95,116,111,95,104,115,118]),(.str (k [114,103,98,95,116,111,95,104,115,118]) 259),(.ref 49)⟩
noncomputable def g14 (P:Params):DictEntry:=⟨PyData.keyHash P (k [104,115,118,95,116,111,95,114,103,98]),(.str (k [104,115,118,95,116,111,95,114,103,98]) 273),(.ref 56)⟩
noncomputable def o3v4 (P:Params):Obj:=⟨(.type "dict"),none,(.dict ⟨[g0 P,g1 P,g2 P,g3 P,g4 P,g5 P,g6 P,g7 P,g8 P,g9 P,g10 P,g11 P,g12 P,g13 P,g14 P]⟩ 15),⟨[]⟩⟩
noncomputable def o12v5 (P:Params):Obj:=⟨.none,none,(.fields ⟨[(.int (2) 0),(.int (0) 0),(.ref 20),(.int (15) 0),(.int (0) 0),(.ref 27),(.int (33) 0),(.int (0) 0),(.ref 34),(.int (45) 0),(.int (0) 0),(.ref 41),(.int (68) 0),(.int (0) 0),(.ref 48),(.int (87) 0),(.int (0) 0),(.ref 55)]⟩),⟨[]⟩⟩
noncomputable def o15v6 (P:Params):Obj:=⟨(.type "tuple"),none,(.seq ⟨[]⟩ 0),⟨[]⟩⟩
noncomputable def o16v7 (P:Params):Obj:=⟨.none,none,(.fields ⟨[]⟩),⟨[]⟩⟩
noncomputable def o17v8 (P:Params):Obj:=⟨(.type "tuple"),none,(.seq ⟨[(.str (k [97,100,100,114]) 192),(.str (k [112,111,115]) 193),(.str (k [101,115,99,97,112,101]) 194),(.str (k [99,104]) 195)]⟩ 0),⟨[]⟩⟩
noncomputable def o18v9 (P:Params):Obj:=⟨(.type "tuple"),none,(.seq ⟨[]⟩ 0),⟨[]⟩⟩
noncomputable def o19v10 (P:Params):Obj:=⟨.none,none,(.func { name:=(k [95,105,116,101,114,95,101,115,99,97,112,101,100,95,99,104,97,114,115]),qualname:=(k [95,105,116,101,114,95,101,115,99,97,112,101,100,95,99,104,97,114,115]),params:=fnP 1,body:=fnB 1,scope:=fnS 1,globals:=0,closure:=[],defaults:=.none,kwdefaults:=.none,doc:=.none,pyModule:=.none,annotations:=none,code:=.none,closureTuple:=.none,builtins:=0 }),⟨[]⟩⟩
noncomputable def o20v11 (P:Params):Obj:=⟨(.type "code"),none,(.fields ⟨[(.str (k [95,105,116,101,114,95,101,115,99,97,112,101,100,95,99,104,97,114,115]) 189),(.str (k [95,105,116,101,114,95,101,115,99,97,112,101,100,95,99,104,97,114,115]) 190),(.str (k [47,99,108,97,105,109,47,99,117,116,46,112,121]) 191),(.int (2) 0),(.int (1) 0),(.int (0) 0),(.int (0) 0),(.int (35) 0),(.ref 15),(.bool true),(.int (181) 0),(.ref 16),.none,(.ref 17),(.ref 18),(.ref 19),(.int (196) 0),(.int (2) 0),(.str (k [47,99,108,97,105,109,47,99,117,116,46,112,121]) 197)]⟩),⟨[]⟩⟩
noncomputable def o21v12 (P:Params):Obj:=⟨(.type "function"),none,(.func { name:=(k [95,105,116,101,114,95,101,115,99,97,112,101,100,95,99,104,97,114,115]),qualname:=(k [95,105,116,101,114,95,101,115,99,97,112,101,100,95,99,104,97,114,115]),params:=fnP 1,body:=fnB 1,scope:=fnS 1,globals:=3,closure:=[],defaults:=.none,kwdefaults:=.none,doc:=.none,pyModule:=(.str (k [99,112,121,51,49,51,46,101,109,97,105,108,46,117,116,105,108,115]) 187),annotations:=none,code:=(.ref 20),closureTuple:=.none,builtins:=0 }),⟨[]⟩⟩
noncomputable def o22v13 (P:Params):Obj:=⟨(.type "tuple"),none,(.seq ⟨[]⟩ 0),⟨[]⟩⟩
noncomputable def o23v14 (P:Params):Obj:=⟨.none,none,(.fields ⟨[]⟩),⟨[]⟩⟩
noncomputable def o24v15 (P:Params):Obj:=⟨(.type "tuple"),none,(.seq ⟨[(.str (k [97,100,100,114]) 202),(.str (k [115,116,97,114,116]) 203),(.str (k [111,112,101,110,95,112,111,115]) 204),(.str (k [114,101,115,117,108,116]) 205),(.str (k [112,111,115]) 206),(.str (k [99,104]) 207)]⟩ 0),⟨[]⟩⟩
noncomputable def o25v16 (P:Params):Obj:=⟨(.type "tuple"),none,(.seq ⟨[]⟩ 0),⟨[]⟩⟩
noncomputable def o26v17 (P:Params):Obj:=⟨.none,none,(.func { name:=(k [95,115,116,114,105,112,95,113,117,111,116,101,100,95,114,101,97,108,110,97,109,101,115]),qualname:=(k [95,115,116,114,105,112,95,113,117,111,116,101,100,95,114,101,97,108,110,97,109,101,115]),params:=fnP 2,body:=fnB 2,scope:=fnS 2,globals:=0,closure:=[],defaults:=.none,kwdefaults:=.none,doc:=.none,pyModule:=.none,annotations:=none,code:=.none,closureTuple:=.none,builtins:=0 }),⟨[]⟩⟩
noncomputable def o27v18 (P:Params):Obj:=⟨(.type "code"),none,(.fields ⟨[(.str (k [95,115,116,114,105,112,95,113,117,111,116,101,100,95,114,101,97,108,110,97,109,101,115]) 199),(.str (k [95,115,116,114,105,112,95,113,117,111,116,101,100,95,114,101,97,108,110,97,109,101,115]) 200),(.str (k [47,99,108,97,105,109,47,99,117,116,46,112,121]) 201),(.int (15) 0),(.int (1) 0),(.int (0) 0),(.int (0) 0),(.int (3) 0),(.ref 22),(.bool true),(.int (181) 0),(.ref 23),.none,(.ref 24),(.ref 25),(.ref 26),(.int (208) 0),(.int (15) 0),(.str (k [47,99,108,97,105,109,47,99,117,116,46,112,121]) 209)]⟩),⟨[]⟩⟩
noncomputable def o28v19 (P:Params):Obj:=⟨(.type "function"),none,(.func { name:=(k [95,115,116,114,105,112,95,113,117,111,116,101,100,95,114,101,97,108,110,97,109,101,115]),qualname:=(k [95,115,116,114,105,112,95,113,117,111,116,101,100,95,114,101,97,108,110,97,109,101,115]),params:=fnP 2,body:=fnB 2,scope:=fnS 2,globals:=3,closure:=[],defaults:=.none,kwdefaults:=.none,doc:=.none,pyModule:=(.str (k [99,112,121,51,49,51,46,101,109,97,105,108,46,117,116,105,108,115]) 187),annotations:=none,code:=(.ref 27),closureTuple:=.none,builtins:=0 }),⟨[]⟩⟩
noncomputable def o29v20 (P:Params):Obj:=⟨(.type "tuple"),none,(.seq ⟨[]⟩ 0),⟨[]⟩⟩
noncomputable def o30v21 (P:Params):Obj:=⟨.none,none,(.fields ⟨[]⟩),⟨[]⟩⟩
noncomputable def o31v22 (P:Params):Obj:=⟨(.type "tuple"),none,(.seq ⟨[(.str (k [97,100,100,114]) 214),(.str (k [111,112,101,110,115]) 215),(.str (k [112,111,115]) 216),(.str (k [99,104]) 217)]⟩ 0),⟨[]⟩⟩
noncomputable def o32v23 (P:Params):Obj:=⟨(.type "tuple"),none,(.seq ⟨[]⟩ 0),⟨[]⟩⟩
noncomputable def o33v24 (P:Params):Obj:=⟨.none,none,(.func { name:=(k [95,99,104,101,99,107,95,112,97,114,101,110,116,104,101,115,105,115]),qualname:=(k [95,99,104,101,99,107,95,112,97,114,101,110,116,104,101,115,105,115]),params:=fnP 3,body:=fnB 3,scope:=fnS 3,globals:=0,closure:=[],defaults:=.none,kwdefaults:=.none,doc:=.none,pyModule:=.none,annotations:=none,code:=.none,closureTuple:=.none,builtins:=0 }),⟨[]⟩⟩
noncomputable def o34v25 (P:Params):Obj:=⟨(.type "code"),none,(.fields ⟨[(.str (k [95,99,104,101,99,107,95,112,97,114,101,110,116,104,101,115,105,115]) 211),(.str (k [95,99,104,101,99,107,95,112,97,114,101,110,116,104,101,115,105,115]) 212),(.str (k [47,99,108,97,105,109,47,99,117,116,46,112,121]) 213),(.int (33) 0),(.int (1) 0),(.int (0) 0),(.int (0) 0),(.int (3) 0),(.ref 29),(.bool true),(.int (181) 0),(.ref 30),.none,(.ref 31),(.ref 32),(.ref 33),(.int (218) 0),(.int (33) 0),(.str (k [47,99,108,97,105,109,47,99,117,116,46,112,121]) 219)]⟩),⟨[]⟩⟩
noncomputable def o35v26 (P:Params):Obj:=⟨(.type "function"),none,(.func { name:=(k [95,99,104,101,99,107,95,112,97,114,101,110,116,104,101,115,105,115]),qualname:=(k [95,99,104,101,99,107,95,112,97,114,101,110,116,104,101,115,105,115]),params:=fnP 3,body:=fnB 3,scope:=fnS 3,globals:=3,closure:=[],defaults:=.none,kwdefaults:=.none,doc:=.none,pyModule:=(.str (k [99,112,121,51,49,51,46,101,109,97,105,108,46,117,116,105,108,115]) 187),annotations:=none,code:=(.ref 34),closureTuple:=.none,builtins:=0 }),⟨[]⟩⟩
noncomputable def o36v27 (P:Params):Obj:=⟨(.type "tuple"),none,(.seq ⟨[]⟩ 0),⟨[]⟩⟩
noncomputable def o37v28 (P:Params):Obj:=⟨.none,none,(.fields ⟨[]⟩),⟨[]⟩⟩
noncomputable def o38v29 (P:Params):Obj:=⟨(.type "tuple"),none,(.seq ⟨[(.str (k [114]) 226),(.str (k [103]) 227),(.str (k [98]) 228),(.str (k [109,97,120,99]) 229),(.str (k [109,105,110,99]) 230),(.str (k [115,117,109,99]) 231),(.str (k [114,97,110,103,101,99]) 232),(.str (k [108]) 233),(.str (k [115]) 234),(.str (k [114,99]) 235),(.str (k [103,99]) 236),(.str (k [98,99]) 237),(.str (k [104]) 238)]⟩ 0),⟨[]⟩⟩
noncomputable def o39v30 (P:Params):Obj:=⟨(.type "tuple"),none,(.seq ⟨[]⟩ 0),⟨[]⟩⟩
noncomputable def o40v31 (P:Params):Obj:=⟨.none,none,(.func { name:=(k [114,103,98,95,116,111,95,104,108,115]),qualname:=(k [114,103,98,95,116,111,95,104,108,115]),params:=fnP 5,body:=fnB 5,scope:=fnS 5,globals:=0,closure:=[],defaults:=.none,kwdefaults:=.none,doc:=.none,pyModule:=.none,annotations:=none,code:=.none,closureTuple:=.none,builtins:=0 }),⟨[]⟩⟩
noncomputable def o41v32 (P:Params):Obj:=⟨(.type "code"),none,(.fields ⟨[(.str (k [114,103,98,95,116,111,95,104,108,115]) 223),(.str (k [114,103,98,95,116,111,95,104,108,115]) 224),(.str (k [47,99,108,97,105,109,47,99,117,116,46,112,121]) 225),(.int (45) 0),(.int (3) 0),(.int (0) 0),(.int (0) 0),(.int (3) 0),(.ref 36),(.bool true),(.int (181) 0),(.ref 37),.none,(.ref 38),(.ref 39),(.ref 40),(.int (239) 0),(.int (45) 0),(.str (k [47,99,108,97,105,109,47,99,117,116,46,112,121]) 240)]⟩),⟨[]⟩⟩
noncomputable def o42v33 (P:Params):Obj:=⟨(.type "function"),none,(.func { name:=(k [114,103,98,95,116,111,95,104,108,115]),qualname:=(k [114,103,98,95,116,111,95,104,108,115]),params:=fnP 5,body:=fnB 5,scope:=fnS 5,globals:=3,closure:=[],defaults:=.none,kwdefaults:=.none,doc:=.none,pyModule:=(.str (k [99,112,121,51,49,51,46,99,111,108,111,114,115,121,115]) 221),annotations:=none,code:=(.ref 41),closureTuple:=.none,builtins:=0 }),⟨[]⟩⟩
noncomputable def o43v34 (P:Params):Obj:=⟨(.type "tuple"),none,(.seq ⟨[]⟩ 0),⟨[]⟩⟩
noncomputable def o44v35 (P:Params):Obj:=⟨.none,none,(.fields ⟨[]⟩),⟨[]⟩⟩
noncomputable def o45v36 (P:Params):Obj:=⟨(.type "tuple"),none,(.seq ⟨[(.str (k [114]) 245),(.str (k [103]) 246),(.str (k [98]) 247),(.str (k [109,97,120,99]) 248),(.str (k [109,105,110,99]) 249),(.str (k [114,97,110,103,101,99]) 250),(.str (k [118]) 251),(.str (k [115]) 252),(.str (k [114,99]) 253),(.str (k [103,99]) 254),(.str (k [98,99]) 255),(.str (k [104]) 256)]⟩ 0),⟨[]⟩⟩
noncomputable def o46v37 (P:Params):Obj:=⟨(.type "tuple"),none,(.seq ⟨[]⟩ 0),⟨[]⟩⟩
noncomputable def o47v38 (P:Params):Obj:=⟨.none,none,(.func { name:=(k [114,103,98,95,116,111,95,104,115,118]),qualname:=(k [114,103,98,95,116,111,95,104,115,118]),params:=fnP 6,body:=fnB 6,scope:=fnS 6,globals:=0,closure:=[],defaults:=.none,kwdefaults:=.none,doc:=.none,pyModule:=.none,annotations:=none,code:=.none,closureTuple:=.none,builtins:=0 }),⟨[]⟩⟩
noncomputable def o48v39 (P:Params):Obj:=⟨(.type "code"),none,(.fields ⟨[(.str (k [114,103,98,95,116,111,95,104,115,118]) 242),(.str (k [114,103,98,95,116,111,95,104,115,118]) 243),(.str (k [47,99,108,97,105,109,47,99,117,116,46,112,121]) 244),(.int (68) 0),(.int (3) 0),(.int (0) 0),(.int (0) 0),(.int (3) 0),(.ref 43),(.bool true),(.int (181) 0),(.ref 44),.none,(.ref 45),(.ref 46),(.ref 47),(.int (257) 0),(.int (68) 0),(.str (k [47,99,108,97,105,109,47,99,117,116,46,112,121]) 258)]⟩),⟨[]⟩⟩
noncomputable def o49v40 (P:Params):Obj:=⟨(.type "function"),none,(.func { name:=(k [114,103,98,95,116,111,95,104,115,118]),qualname:=(k [114,103,98,95,116,111,95,104,115,118]),params:=fnP 6,body:=fnB 6,scope:=fnS 6,globals:=3,closure:=[],defaults:=.none,kwdefaults:=.none,doc:=.none,pyModule:=(.str (k [99,112,121,51,49,51,46,99,111,108,111,114,115,121,115]) 221),annotations:=none,code:=(.ref 48),closureTuple:=.none,builtins:=0 }),⟨[]⟩⟩
noncomputable def o50v41 (P:Params):Obj:=⟨(.type "tuple"),none,(.seq ⟨[]⟩ 0),⟨[]⟩⟩
noncomputable def o51v42 (P:Params):Obj:=⟨.none,none,(.fields ⟨[]⟩),⟨[]⟩⟩
noncomputable def o52v43 (P:Params):Obj:=⟨(.type "tuple"),none,(.seq ⟨[(.str (k [104]) 263),(.str (k [115]) 264),(.str (k [118]) 265),(.str (k [105]) 266),(.str (k [102]) 267),(.str (k [112]) 268),(.str (k [113]) 269),(.str (k [116]) 270)]⟩ 0),⟨[]⟩⟩
noncomputable def o53v44 (P:Params):Obj:=⟨(.type "tuple"),none,(.seq ⟨[]⟩ 0),⟨[]⟩⟩
noncomputable def o54v45 (P:Params):Obj:=⟨.none,none,(.func { name:=(k [104,115,118,95,116,111,95,114,103,98]),qualname:=(k [104,115,118,95,116,111,95,114,103,98]),params:=fnP 7,body:=fnB 7,scope:=fnS 7,globals:=0,closure:=[],defaults:=.none,kwdefaults:=.none,doc:=.none,pyModule:=.none,annotations:=none,code:=.none,closureTuple:=.none,builtins:=0 }),⟨[]⟩⟩
noncomputable def o55v46 (P:Params):Obj:=⟨(.type "code"),none,(.fields ⟨[(.str (k [104,115,118,95,116,111,95,114,103,98]) 260),(.str (k [104,115,118,95,116,111,95,114,103,98]) 261),(.str (k [47,99,108,97,105,109,47,99,117,116,46,112,121]) 262),(.int (87) 0),(.int (3) 0),(.int (0) 0),(.int (0) 0),(.int (3) 0),(.ref 50),(.bool true),(.int (181) 0),(.ref 51),.none,(.ref 52),(.ref 53),(.ref 54),(.int (271) 0),(.int (87) 0),(.str (k [47,99,108,97,105,109,47,99,117,116,46,112,121]) 272)]⟩),⟨[]⟩⟩
noncomputable def o56v47 (P:Params):Obj:=⟨(.type "function"),none,(.func { name:=(k [104,115,118,95,116,111,95,114,103,98]),qualname:=(k [104,115,118,95,116,111,95,114,103,98]),params:=fnP 7,body:=fnB 7,scope:=fnS 7,globals:=3,closure:=[],defaults:=.none,kwdefaults:=.none,doc:=.none,pyModule:=(.str (k [99,112,121,51,49,51,46,99,111,108,111,114,115,121,115]) 221),annotations:=none,code:=(.ref 55),closureTuple:=.none,builtins:=0 }),⟨[]⟩⟩
noncomputable def TS1 (P:Params):BT:=(.node (boot_o_0 P) (.node (boot_o_1 P) (.node (o3v4 P) (.node (boot_o_7 P) (.node (o15v6 P) (.node (o31v22 P) .nil .nil) (.node (o47v38 P) .nil .nil)) (.node (o23v14 P) (.node (o39v30 P) .nil .nil) (.node (o55v46 P) .nil .nil))) (.node (o11v0 P) (.node (o19v10 P) (.node (o35v26 P) .nil .nil) (.node (o51v42 P) .nil .nil)) (.node (o27v18 P) (.node (o43v34 P) .nil .nil) .nil))) (.node (boot_o_5 P) (.node (boot_o_9 P) (.node (o17v8 P) (.node (o33v24 P) .nil .nil) (.node (o49v40 P) .nil .nil)) (.node (o25v16 P) (.node (o41v32 P) .nil .nil) .nil)) (.node (o13v2 P) (.node (o21v12 P) (.node (o37v28 P) .nil .nil) (.node (o53v44 P) .nil .nil)) (.node (o29v20 P) (.node (o45v36 P) .nil .nil) .nil)))) (.node (boot_o_2 P) (.node (boot_o_4 P) (.node (boot_o_8 P) (.node (o16v7 P) (.node (o32v23 P) .nil .nil) (.node (o48v39 P) .nil .nil)) (.node (o24v15 P) (.node (o40v31 P) .nil .nil) (.node (o56v47 P) .nil .nil))) (.node (o12v5 P) (.node (o20v11 P) (.node (o36v27 P) .nil .nil) (.node (o52v43 P) .nil .nil)) (.node (o28v19 P) (.node (o44v35 P) .nil .nil) .nil))) (.node (boot_o_6 P) (.node (boot_o_10 P) (.node (o18v9 P) (.node (o34v25 P) .nil .nil) (.node (o50v41 P) .nil .nil)) (.node (o26v17 P) (.node (o42v33 P) .nil .nil) .nil)) (.node (o14v3 P) (.node (o22v13 P) (.node (o38v29 P) .nil .nil) (.node (o54v45 P) .nil .nil)) (.node (o30v21 P) (.node (o46v37 P) .nil .nil) .nil)))))
noncomputable def S1 (w:World) (os:OsState):SharedT:=⟨TS1 w.params,57,{},⟨[]⟩,{},276,os⟩
noncomputable def posS1:Pos:=⟨108,0,108,8⟩
noncomputable def g15 (P:Params):DictEntry:=⟨PyData.keyHash P (k [98,49,95,115,101,116]),(.str (k [98,49,95,115,101,116]) 335),(.ref 64)⟩
noncomputable def o3v48 (P:Params):Obj:=⟨(.type "dict"),none,(.dict ⟨[g0 P,g1 P,g2 P,g3 P,g4 P,g5 P,g6 P,g7 P,g8 P,g9 P,g10 P,g11 P,g12 P,g13 P,g14 P,g15 P]⟩ 16),⟨[]⟩⟩
noncomputable def o57v49 (P:Params):Obj:=⟨(.type "list"),none,(.seq ⟨[(.int (173) 276),(.int (847) 277),(.int (6150) 278),(.int (6155) 279),(.int (6156) 280),(.int (6157) 281),(.int (8203) 282),(.int (8204) 283),(.int (8205) 284),(.int (8288) 285),(.int (65279) 286)]⟩ 0),⟨[]⟩⟩
noncomputable def o58v50 (P:Params):Obj:=⟨(.type "range"),none,(.fields ⟨[(.int (65024) 287),(.int (65040) 288),(.int (1) 289)]⟩),⟨[]⟩⟩
noncomputable def o59v51 (P:Params):Obj:=⟨(.type "list"),none,(.seq ⟨[(.int (65024) 292),(.int (65025) 293),(.int (65026) 294),(.int (65027) 295),(.int (65028) 296),(.int (65029) 297),(.int (65030) 298),(.int (65031) 299),(.int (65032) 300),(.int (65033) 301),(.int (65034) 302),(.int (65035) 303),(.int (65036) 304),(.int (65037) 305),(.int (65038) 306),(.int (65039) 307)]⟩ 18),⟨[]⟩⟩
noncomputable def o60v52 (P:Params):Obj:=⟨(.type "range_iterator"),none,(.fields ⟨[(.int (65040) 0),(.int (0) 0),(.int (1) 0)]⟩),⟨[]⟩⟩
noncomputable def o61v53 (P:Params):Obj:=⟨(.type "tuple"),none,(.seq ⟨[]⟩ 0),⟨[]⟩⟩
noncomputable def o62v54 (P:Params):Obj:=⟨(.type "StopIteration"),none,(.fields ⟨[(.ref 61),.none,.none,.none,(.bool false),.none]⟩),⟨[]⟩⟩
noncomputable def o63v55 (P:Params):Obj:=⟨(.type "list"),none,(.seq ⟨[(.int (173) 276),(.int (847) 277),(.int (6150) 278),(.int (6155) 279),(.int (6156) 280),(.int (6157) 281),(.int (8203) 282),(.int (8204) 283),(.int (8205) 284),(.int (8288) 285),(.int (65279) 286),(.int (65024) 292),(.int (65025) 293),(.int (65026) 294),(.int (65027) 295),(.int (65028) 296),(.int (65029) 297),(.int (65030) 298),(.int (65031) 299),(.int (65032) 300),(.int (65033) 301),(.int (65034) 302),(.int (65035) 303),(.int (65036) 304),(.int (65037) 305),(.int (65038) 306),(.int (65039) 307)]⟩ 0),⟨[]⟩⟩
noncomputable def o64v56 (P:Params):Obj:=⟨(.type "set"),none,(.set ⟨[(65024,(.int (65024) 292)),(65025,(.int (65025) 293)),(65026,(.int (65026) 294)),(65027,(.int (65027) 295)),(65028,(.int (65028) 296)),(65029,(.int (65029) 297)),(6150,(.int (6150) 278)),(65030,(.int (65030) 298)),(65031,(.int (65031) 299)),(65032,(.int (65032) 300)),(65033,(.int (65033) 301)),(6155,(.int (6155) 279)),(6156,(.int (6156) 280)),(6157,(.int (6157) 281)),(8203,(.int (8203) 282)),(8204,(.int (8204) 283)),(8205,(.int (8205) 284)),(65034,(.int (65034) 302)),(65035,(.int (65035) 303)),(65036,(.int (65036) 304)),(65037,(.int (65037) 305)),(65038,(.int (65038) 306)),(65039,(.int (65039) 307)),(173,(.int (173) 276)),(847,(.int (847) 277)),(8288,(.int (8288) 285)),(65279,(.int (65279) 286))]⟩ 29 { mask:=127,place:=⟨[0,1,2,3,4,5,6,7,8,9,10,11,12,13,14,15,16,17,18,19,20,21,22,45,79,96,127]⟩,dummies:=⟨[]⟩,finger:=0,led:=!(P.followText "set-order"),moves:=2,plain:=true }),⟨[]⟩⟩
noncomputable def o65v57 (P:Params):Obj:=⟨(.type "list_iterator"),none,(.fields ⟨[.none,(.int (27) 0)]⟩),⟨[]⟩⟩
noncomputable def o66v58 (P:Params):Obj:=⟨(.type "tuple"),none,(.seq ⟨[]⟩ 0),⟨[]⟩⟩
noncomputable def o67v59 (P:Params):Obj:=⟨(.type "StopIteration"),none,(.fields ⟨[(.ref 66),.none,.none,.none,(.bool false),.none]⟩),⟨[]⟩⟩
noncomputable def TS2 (P:Params):BT:=(.node (boot_o_0 P) (.node (boot_o_1 P) (.node (o3v48 P) (.node (boot_o_7 P) (.node (o15v6 P) (.node (o31v22 P) (.node (o63v55 P) .nil .nil) .nil) (.node (o47v38 P) .nil .nil)) (.node (o23v14 P) (.node (o39v30 P) .nil .nil) (.node (o55v46 P) .nil .nil))) (.node (o11v0 P) (.node (o19v10 P) (.node (o35v26 P) (.node (o67v59 P) .nil .nil) .nil) (.node (o51v42 P) .nil .nil)) (.node (o27v18 P) (.node (o43v34 P) .nil .nil) (.node (o59v51 P) .nil .nil)))) (.node (boot_o_5 P) (.node (boot_o_9 P) (.node (o17v8 P) (.node (o33v24 P) (.node (o65v57 P) .nil .nil) .nil) (.node (o49v40 P) .nil .nil)) (.node (o25v16 P) (.node (o41v32 P) .nil .nil) (.node (o57v49 P) .nil .nil))) (.node (o13v2 P) (.node (o21v12 P) (.node (o37v28 P) .nil .nil) (.node (o53v44 P) .nil .nil)) (.node (o29v20 P) (.node (o45v36 P) .nil .nil) (.node (o61v53 P) .nil .nil))))) (.node (boot_o_2 P) (.node (boot_o_4 P) (.node (boot_o_8 P) (.node (o16v7 P) (.node (o32v23 P) (.node (o64v56 P) .nil .nil) .nil) (.node (o48v39 P) .nil .nil)) (.node (o24v15 P) (.node (o40v31 P) .nil .nil) (.node (o56v47 P) .nil .nil))) (.node (o12v5 P) (.node (o20v11 P) (.node (o36v27 P) .nil .nil) (.node (o52v43 P) .nil .nil)) (.node (o28v19 P) (.node (o44v35 P) .nil .nil) (.node (o60v52 P) .nil .nil)))) (.node (boot_o_6 P) (.node (boot_o_10 P) (.node (o18v9 P) (.node (o34v25 P) (.node (o66v58 P) .nil .nil) .nil) (.node (o50v41 P) .nil .nil)) (.node (o26v17 P) (.node (o42v33 P) .nil .nil) (.node (o58v50 P) .nil .nil))) (.node (o14v3 P) (.node (o22v13 P) (.node (o38v29 P) .nil .nil) (.node (o54v45 P) .nil .nil)) (.node (o30v21 P) (.node (o46v37 P) .nil .nil) (.node (o62v54 P) .nil .nil))))))
noncomputable def S2 (w:World) (os:OsState):SharedT:=⟨TS2 w.params,68,{},⟨[]⟩,{},336,os⟩
noncomputable def posS2:Pos:=⟨109,0,109,6⟩
noncomputable def g16 (P:Params):DictEntry:=⟨PyData.keyHash P (k [105,110,95,116,97,98,108,101,95,98,49]),(.str (k [105,110,95,116,97,98,108,101,95,98,49]) 342),(.ref 74)⟩
noncomputable def o3v60 (P:Params):Obj:=⟨(.type "dict"),none,(.dict ⟨[g0 P,g1 P,g2 P,g3 P,g4 P,g5 P,g6 P,g7 P,g8 P,g9 P,g10 P,g11 P,g12 P,g13 P,g14 P,g15 P,g16 P]⟩ 17),⟨[]⟩⟩
noncomputable def o12v61 (P:Params):Obj:=⟨.none,none,(.fields ⟨[(.int (2) 0),(.int (0) 0),(.ref 20),(.int (15) 0),(.int (0) 0),(.ref 27),(.int (33) 0),(.int (0) 0),(.ref 34),(.int (45) 0),(.int (0) 0),(.ref 41),(.int (68) 0),(.int (0) 0),(.ref 48),(.int (87) 0),(.int (0) 0),(.ref 55),(.int (110) 0),(.int (0) 0),(.ref 73)]⟩),⟨[]⟩⟩
noncomputable def o68v62 (P:Params):Obj:=⟨(.type "tuple"),none,(.seq ⟨[]⟩ 0),⟨[]⟩⟩
noncomputable def o69v63 (P:Params):Obj:=⟨.none,none,(.fields ⟨[]⟩),⟨[]⟩⟩
noncomputable def o70v64 (P:Params):Obj:=⟨(.type "tuple"),none,(.seq ⟨[(.str (k [99,111,100,101]) 339)]⟩ 0),⟨[]⟩⟩
noncomputable def o71v65 (P:Params):Obj:=⟨(.type "tuple"),none,(.seq ⟨[]⟩ 0),⟨[]⟩⟩
noncomputable def o72v66 (P:Params):Obj:=⟨.none,none,(.func { name:=(k [105,110,95,116,97,98,108,101,95,98,49]),qualname:=(k [105,110,95,116,97,98,108,101,95,98,49]),params:=fnP 10,body:=fnB 10,scope:=fnS 10,globals:=0,closure:=[],defaults:=.none,kwdefaults:=.none,doc:=.none,pyModule:=.none,annotations:=none,code:=.none,closureTuple:=.none,builtins:=0 }),⟨[]⟩⟩
noncomputable def o73v67 (P:Params):Obj:=⟨(.type "code"),none,(.fields ⟨[(.str (k [105,110,95,116,97,98,108,101,95,98,49]) 336),(.str (k [105,110,95,116,97,98,108,101,95,98,49]) 337),(.str (k [47,99,108,97,105,109,47,99,117,116,46,112,121]) 338),(.int (110) 0),(.int (1) 0),(.int (0) 0),(.int (0) 0),(.int (3) 0),(.ref 68),(.bool true),(.int (181) 0),(.ref 69),.none,(.ref 70),(.ref 71),(.ref 72),(.int (340) 0),(.int (110) 0),(.str (k [47,99,108,97,105,109,47,99,117,116,46,112,121]) 341)]⟩),⟨[]⟩⟩
noncomputable def o74v68 (P:Params):Obj:=⟨(.type "function"),none,(.func { name:=(k [105,110,95,116,97,98,108,101,95,98,49]),qualname:=(k [105,110,95,116,97,98,108,101,95,98,49]),params:=fnP 10,body:=fnB 10,scope:=fnS 10,globals:=3,closure:=[],defaults:=.none,kwdefaults:=.none,doc:=.none,pyModule:=(.str (k [99,112,121,51,49,51,46,115,116,114,105,110,103,112,114,101,112]) 274),annotations:=none,code:=(.ref 73),closureTuple:=.none,builtins:=0 }),⟨[]⟩⟩
noncomputable def TS3 (P:Params):BT:=(.node (boot_o_0 P) (.node (boot_o_1 P) (.node (o3v60 P) (.node (boot_o_7 P) (.node (o15v6 P) (.node (o31v22 P) (.node (o63v55 P) .nil .nil) .nil) (.node (o47v38 P) .nil .nil)) (.node (o23v14 P) (.node (o39v30 P) (.node (o71v65 P) .nil .nil) .nil) (.node (o55v46 P) .nil .nil))) (.node (o11v0 P) (.node (o19v10 P) (.node (o35v26 P) (.node (o67v59 P) .nil .nil) .nil) (.node (o51v42 P) .nil .nil)) (.node (o27v18 P) (.node (o43v34 P) .nil .nil) (.node (o59v51 P) .nil .nil)))) (.node (boot_o_5 P) (.node (boot_o_9 P) (.node (o17v8 P) (.node (o33v24 P) (.node (o65v57 P) .nil .nil) .nil) (.node (o49v40 P) .nil .nil)) (.node (o25v16 P) (.node (o41v32 P) (.node (o73v67 P) .nil .nil) .nil) (.node (o57v49 P) .nil .nil))) (.node (o13v2 P) (.node (o21v12 P) (.node (o37v28 P) (.node (o69v63 P) .nil .nil) .nil) (.node (o53v44 P) .nil .nil)) (.node (o29v20 P) (.node (o45v36 P) .nil .nil) (.node (o61v53 P) .nil .nil))))) (.node (boot_o_2 P) (.node (boot_o_4 P) (.node (boot_o_8 P) (.node (o16v7 P) (.node (o32v23 P) (.node (o64v56 P) .nil .nil) .nil) (.node (o48v39 P) .nil .nil)) (.node (o24v15 P) (.node (o40v31 P) (.node (o72v66 P) .nil .nil) .nil) (.node (o56v47 P) .nil .nil))) (.node (o12v61 P) (.node (o20v11 P) (.node (o36v27 P) (.node (o68v62 P) .nil .nil) .nil) (.node (o52v43 P) .nil .nil)) (.node (o28v19 P) (.node (o44v35 P) .nil .nil) (.node (o60v52 P) .nil .nil)))) (.node (boot_o_6 P) (.node (boot_o_10 P) (.node (o18v9 P) (.node (o34v25 P) (.node (o66v58 P) .nil .nil) .nil) (.node (o50v41 P) .nil .nil)) (.node (o26v17 P) (.node (o42v33 P) (.node (o74v68 P) .nil .nil) .nil) (.node (o58v50 P) .nil .nil))) (.node (o14v3 P) (.node (o22v13 P) (.node (o38v29 P) (.node (o70v64 P) .nil .nil) .nil) (.node (o54v45 P) .nil .nil)) (.node (o30v21 P) (.node (o46v37 P) .nil .nil) (.node (o62v54 P) .nil .nil))))))
noncomputable def S3 (w:World) (os:OsState):SharedT:=⟨TS3 w.params,75,{},⟨[]⟩,{},343,os⟩
noncomputable def posS3:Pos:=⟨110,0,111,30⟩
noncomputable def g17 (P:Params):DictEntry:=⟨PyData.keyHash P (k [98,51,95,101,120,99,101,112,116,105,111,110,115]),(.str (k [98,51,95,101,120,99,101,112,116,105,111,110,115]) 2293),(.ref 75)⟩
noncomputable def o3v69 (P:Params):Obj:=⟨(.type "dict"),none,(.dict ⟨[g0 P,g1 P,g2 P,g3 P,g4 P,g5 P,g6 P,g7 P,g8 P,g9 P,g10 P,g11 P,g12 P,g13 P,g14 P,g15 P,g16 P,g17 P]⟩ 18),⟨[]⟩⟩
noncomputable def TS4 (P:Params):BT:=(.node (boot_o_0 P) (.node (boot_o_1 P) (.node (o3v69 P) (.node (boot_o_7 P) (.node (o15v6 P) (.node (o31v22 P) (.node (o63v55 P) .nil .nil) (.node (b3o 20 P) .nil .nil)) (.node (o47v38 P) (.node (b3o 4 P) .nil .nil) (.node (b3o 36 P) .nil .nil))) (.node (o23v14 P) (.node (o39v30 P) (.node (o71v65 P) .nil .nil) (.node (b3o 28 P) .nil .nil)) (.node (o55v46 P) (.node (b3o 12 P) .nil .nil) .nil))) (.node (o11v0 P) (.node (o19v10 P) (.node (o35v26 P) (.node (o67v59 P) .nil .nil) (.node (b3o 24 P) .nil .nil)) (.node (o51v42 P) (.node (b3o 8 P) .nil .nil) .nil)) (.node (o27v18 P) (.node (o43v34 P) (.node (b3o 0 P) .nil .nil) (.node (b3o 32 P) .nil .nil)) (.node (o59v51 P) (.node (b3o 16 P) .nil .nil) .nil)))) (.node (boot_o_5 P) (.node (boot_o_9 P) (.node (o17v8 P) (.node (o33v24 P) (.node (o65v57 P) .nil .nil) (.node (b3o 22 P) .nil .nil)) (.node (o49v40 P) (.node (b3o 6 P) .nil .nil) (.node (b3o 38 P) .nil .nil))) (.node (o25v16 P) (.node (o41v32 P) (.node (o73v67 P) .nil .nil) (.node (b3o 30 P) .nil .nil)) (.node (o57v49 P) (.node (b3o 14 P) .nil .nil) .nil))) (.node (o13v2 P) (.node (o21v12 P) (.node (o37v28 P) (.node (o69v63 P) .nil .nil) (.node (b3o 26 P) .nil .nil)) (.node (o53v44 P) (.node (b3o 10 P) .nil .nil) .nil)) (.node (o29v20 P) (.node (o45v36 P) (.node (b3o 2 P) .nil .nil) (.node (b3o 34 P) .nil .nil)) (.node (o61v53 P) (.node (b3o 18 P) .nil .nil) .nil))))) (.node (boot_o_2 P) (.node (boot_o_4 P) (.node (boot_o_8 P) (.node (o16v7 P) (.node (o32v23 P) (.node (o64v56 P) .nil .nil) (.node (b3o 21 P) .nil .nil)) (.node (o48v39 P) (.node (b3o 5 P) .nil .nil) (.node (b3o 37 P) .nil .nil))) (.node (o24v15 P) (.node (o40v31 P) (.node (o72v66 P) .nil .nil) (.node (b3o 29 P) .nil .nil)) (.node (o56v47 P) (.node (b3o 13 P) .nil .nil) .nil))) (.node (o12v61 P) (.node (o20v11 P) (.node (o36v27 P) (.node (o68v62 P) .nil .nil) (.node (b3o 25 P) .nil .nil)) (.node (o52v43 P) (.node (b3o 9 P) .nil .nil) .nil)) (.node (o28v19 P) (.node (o44v35 P) (.node (b3o 1 P) .nil .nil) (.node (b3o 33 P) .nil .nil)) (.node (o60v52 P) (.node (b3o 17 P) .nil .nil) .nil)))) (.node (boot_o_6 P) (.node (boot_o_10 P) (.node (o18v9 P) (.node (o34v25 P) (.node (o66v58 P) .nil .nil) (.node (b3o 23 P) .nil .nil)) (.node (o50v41 P) (.node (b3o 7 P) .nil .nil) .nil)) (.node (o26v17 P) (.node (o42v33 P) (.node (o74v68 P) .nil .nil) (.node (b3o 31 P) .nil .nil)) (.node (o58v50 P) (.node (b3o 15 P) .nil .nil) .nil))) (.node (o14v3 P) (.node (o22v13 P) (.node (o38v29 P) (.node (o70v64 P) .nil .nil) (.node (b3o 27 P) .nil .nil)) (.node (o54v45 P) (.node (b3o 11 P) .nil .nil) .nil)) (.node (o30v21 P) (.node (o46v37 P) (.node (b3o 3 P) .nil .nil) (.node (b3o 35 P) .nil .nil)) (.node (o62v54 P) (.node (b3o 19 P) .nil .nil) .nil))))))
noncomputable def S4 (w:World) (os:OsState):SharedT:=⟨TS4 w.params,114,{},⟨[]⟩,{},2294,os⟩
noncomputable def posS4:Pos:=⟨112,0,112,13⟩
noncomputable def g18 (P:Params):DictEntry:=⟨PyData.keyHash P (k [95,95,110,97,109,101,95,95]),(.str (k [95,95,110,97,109,101,95,95]) 165),(.str (k [99,112,121,51,49,51,46,116,111,107,101,110]) 2302)⟩
noncomputable def g19 (P:Params):DictEntry:=⟨PyData.keyHash P (k [109,97,112,95,116,97,98,108,101,95,98,51]),(.str (k [109,97,112,95,116,97,98,108,101,95,98,51]) 2301),(.ref 120)⟩
noncomputable def g20 (P:Params):DictEntry:=⟨PyData.keyHash P (k [76,80,65,82]),(.str (k [76,80,65,82]) 2305),(.int (7) 2304)⟩
noncomputable def g21 (P:Params):DictEntry:=⟨PyData.keyHash P (k [82,80,65,82]),(.str (k [82,80,65,82]) 2307),(.int (8) 2306)⟩
noncomputable def g22 (P:Params):DictEntry:=⟨PyData.keyHash P (k [76,83,81,66]),(.str (k [76,83,81,66]) 2309),(.int (9) 2308)⟩
noncomputable def g23 (P:Params):DictEntry:=⟨PyData.keyHash P (k [82,83,81,66]),(.str (k [82,83,81,66]) 2311),(.int (10) 2310)⟩
noncomputable def g24 (P:Params):DictEntry:=⟨PyData.keyHash P (k [67,79,76,79,78]),(.str (k [67,79,76,79,78]) 2313),(.int (11) 2312)⟩
noncomputable def g25 (P:Params):DictEntry:=⟨PyData.keyHash P (k [67,79,77,77,65]),(.str (k [67,79,77,77,65]) 2315),(.int (12) 2314)⟩
noncomputable def g26 (P:Params):DictEntry:=⟨PyData.keyHash P (k [83,69,77,73]),(.str (k [83,69,77,73]) 2317),(.int (13) 2316)⟩
noncomputable def g27 (P:Params):DictEntry:=⟨PyData.keyHash P (k [80,76,85,83]),(.str (k [80,76,85,83]) 2319),(.int (14) 2318)⟩
noncomputable def g28 (P:Params):DictEntry:=⟨PyData.keyHash P (k [77,73,78,85,83]),(.str (k [77,73,78,85,83]) 2321),(.int (15) 2320)⟩
noncomputable def g29 (P:Params):DictEntry:=⟨PyData.keyHash P (k [83,84,65,82]),(.str (k [83,84,65,82]) 2323),(.int (16) 2322)⟩
noncomputable def g30 (P:Params):DictEntry:=⟨PyData.keyHash P (k [83,76,65,83,72]),(.str (k [83,76,65,83,72]) 2325),(.int (17) 2324)⟩
noncomputable def g31 (P:Params):DictEntry:=⟨PyData.keyHash P (k [86,66,65,82]),(.str (k [86,66,65,82]) 2327),(.int (18) 2326)⟩
noncomputable def g32 (P:Params):DictEntry:=⟨PyData.keyHash P (k [65,77,80,69,82]),(.str (k [65,77,80,69,82]) 2329),(.int (19) 2328)⟩
noncomputable def g33 (P:Params):DictEntry:=⟨PyData.keyHash P (k [76,69,83,83]),(.str (k [76,69,83,83]) 2331),(.int (20) 2330)⟩
noncomputable def g34 (P:Params):DictEntry:=⟨PyData.keyHash P (k [71,82,69,65,84,69,82]),(.str (k [71,82,69,65,84,69,82]) 2333),(.int (21) 2332)⟩
noncomputable def g35 (P:Params):DictEntry:=⟨PyData.keyHash P (k [69,81,85,65,76]),(.str (k [69,81,85,65,76]) 2335),(.int (22) 2334)⟩
noncomputable def g36 (P:Params):DictEntry:=⟨PyData.keyHash P (k [68,79,84]),(.str (k [68,79,84]) 2337),(.int (23) 2336)⟩
noncomputable def g37 (P:Params):DictEntry:=⟨PyData.keyHash P (k [80,69,82,67,69,78,84]),(.str (k [80,69,82,67,69,78,84]) 2339),(.int (24) 2338)⟩
noncomputable def g38 (P:Params):DictEntry:=⟨PyData.keyHash P (k [76,66,82,65,67,69]),(.str (k [76,66,82,65,67,69]) 2341),(.int (25) 2340)⟩
noncomputable def g39 (P:Params):DictEntry:=⟨PyData.keyHash P (k [82,66,82,65,67,69]),(.str (k [82,66,82,65,67,69]) 2343),(.int (26) 2342)⟩
noncomputable def g40 (P:Params):DictEntry:=⟨PyData.keyHash P (k [69,81,69,81,85,65,76]),(.str (k [69,81,69,81,85,65,76]) 2345),(.int (27) 2344)⟩
noncomputable def g41 (P:Params):DictEntry:=⟨PyData.keyHash P (k [78,79,84,69,81,85,65,76]),(.str (k [78,79,84,69,81,85,65,76]) 2347),(.int (28) 2346)⟩
noncomputable def g42 (P:Params):DictEntry:=⟨PyData.keyHash P (k [76,69,83,83,69,81,85,65,76]),(.str (k [76,69,83,83,69,81,85,65,76]) 2349),(.int (29) 2348)⟩
noncomputable def g43 (P:Params):DictEntry:=⟨PyData.keyHash P (k [71,82,69,65,84,69,82,69,81,85,65,76]),(.str (k [71,82,69,65,84,69,82,69,81,85,65,76]) 2351),(.int (30) 2350)⟩
noncomputable def g44 (P:Params):DictEntry:=⟨PyData.keyHash P (k [84,73,76,68,69]),(.str (k [84,73,76,68,69]) 2353),(.int (31) 2352)⟩
noncomputable def g45 (P:Params):DictEntry:=⟨PyData.keyHash P (k [67,73,82,67,85,77,70,76,69,88]),(.str (k [67,73,82,67,85,77,70,76,69,88]) 2355),(.int (32) 2354)⟩
noncomputable def o3v70 (P:Params):Obj:=⟨(.type "dict"),none,(.dict ⟨[g18 P,g1 P,g2 P,g3 P,g4 P,g5 P,g6 P,g7 P,g8 P,g9 P,g10 P,g11 P,g12 P,g13 P,g14 P,g15 P,g16 P,g17 P,g19 P,g20 P,g21 P,g22 P,g23 P,g24 P,g25 P,g26 P,g27 P,g28 P,g29 P,g30 P,g31 P,g32 P,g33 P,g34 P,g35 P,g36 P,g37 P,g38 P,g39 P,g40 P,g41 P,g42 P,g43 P,g44 P,g45 P]⟩ 45),⟨[]⟩⟩
noncomputable def o12v71 (P:Params):Obj:=⟨.none,none,(.fields ⟨[(.int (2) 0),(.int (0) 0),(.ref 20),(.int (15) 0),(.int (0) 0),(.ref 27),(.int (33) 0),(.int (0) 0),(.ref 34),(.int (45) 0),(.int (0) 0),(.ref 41),(.int (68) 0),(.int (0) 0),(.ref 48),(.int (87) 0),(.int (0) 0),(.ref 55),(.int (110) 0),(.int (0) 0),(.ref 73),(.int (113) 0),(.int (0) 0),(.ref 119)]⟩),⟨[]⟩⟩
noncomputable def o114v72 (P:Params):Obj:=⟨(.type "tuple"),none,(.seq ⟨[]⟩ 0),⟨[]⟩⟩
noncomputable def o115v73 (P:Params):Obj:=⟨.none,none,(.fields ⟨[]⟩),⟨[]⟩⟩
noncomputable def o116v74 (P:Params):Obj:=⟨(.type "tuple"),none,(.seq ⟨[(.str (k [99,111,100,101]) 2297),(.str (k [114]) 2298)]⟩ 0),⟨[]⟩⟩
noncomputable def o117v75 (P:Params):Obj:=⟨(.type "tuple"),none,(.seq ⟨[]⟩ 0),⟨[]⟩⟩
noncomputable def o118v76 (P:Params):Obj:=⟨.none,none,(.func { name:=(k [109,97,112,95,116,97,98,108,101,95,98,51]),qualname:=(k [109,97,112,95,116,97,98,108,101,95,98,51]),params:=fnP 12,body:=fnB 12,scope:=fnS 12,globals:=0,closure:=[],defaults:=.none,kwdefaults:=.none,doc:=.none,pyModule:=.none,annotations:=none,code:=.none,closureTuple:=.none,builtins:=0 }),⟨[]⟩⟩
noncomputable def o119v77 (P:Params):Obj:=⟨(.type "code"),none,(.fields ⟨[(.str (k [109,97,112,95,116,97,98,108,101,95,98,51]) 2294),(.str (k [109,97,112,95,116,97,98,108,101,95,98,51]) 2295),(.str (k [47,99,108,97,105,109,47,99,117,116,46,112,121]) 2296),(.int (113) 0),(.int (1) 0),(.int (0) 0),(.int (0) 0),(.int (3) 0),(.ref 114),(.bool true),(.int (181) 0),(.ref 115),.none,(.ref 116),(.ref 117),(.ref 118),(.int (2299) 0),(.int (113) 0),(.str (k [47,99,108,97,105,109,47,99,117,116,46,112,121]) 2300)]⟩),⟨[]⟩⟩
noncomputable def o120v78 (P:Params):Obj:=⟨(.type "function"),none,(.func { name:=(k [109,97,112,95,116,97,98,108,101,95,98,51]),qualname:=(k [109,97,112,95,116,97,98,108,101,95,98,51]),params:=fnP 12,body:=fnB 12,scope:=fnS 12,globals:=3,closure:=[],defaults:=.none,kwdefaults:=.none,doc:=.none,pyModule:=(.str (k [99,112,121,51,49,51,46,115,116,114,105,110,103,112,114,101,112]) 274),annotations:=none,code:=(.ref 119),closureTuple:=.none,builtins:=0 }),⟨[]⟩⟩
noncomputable def TS5 (P:Params):BT:=(.node (boot_o_0 P) (.node (boot_o_1 P) (.node (o3v70 P) (.node (boot_o_7 P) (.node (o15v6 P) (.node (o31v22 P) (.node (o63v55 P) .nil .nil) (.node (b3o 20 P) .nil .nil)) (.node (o47v38 P) (.node (b3o 4 P) .nil .nil) (.node (b3o 36 P) .nil .nil))) (.node (o23v14 P) (.node (o39v30 P) (.node (o71v65 P) .nil .nil) (.node (b3o 28 P) .nil .nil)) (.node (o55v46 P) (.node (b3o 12 P) .nil .nil) (.node (o119v77 P) .nil .nil)))) (.node (o11v0 P) (.node (o19v10 P) (.node (o35v26 P) (.node (o67v59 P) .nil .nil) (.node (b3o 24 P) .nil .nil)) (.node (o51v42 P) (.node (b3o 8 P) .nil .nil) (.node (o115v73 P) .nil .nil))) (.node (o27v18 P) (.node (o43v34 P) (.node (b3o 0 P) .nil .nil) (.node (b3o 32 P) .nil .nil)) (.node (o59v51 P) (.node (b3o 16 P) .nil .nil) .nil)))) (.node (boot_o_5 P) (.node (boot_o_9 P) (.node (o17v8 P) (.node (o33v24 P) (.node (o65v57 P) .nil .nil) (.node (b3o 22 P) .nil .nil)) (.node (o49v40 P) (.node (b3o 6 P) .nil .nil) (.node (b3o 38 P) .nil .nil))) (.node (o25v16 P) (.node (o41v32 P) (.node (o73v67 P) .nil .nil) (.node (b3o 30 P) .nil .nil)) (.node (o57v49 P) (.node (b3o 14 P) .nil .nil) .nil))) (.node (o13v2 P) (.node (o21v12 P) (.node (o37v28 P) (.node (o69v63 P) .nil .nil) (.node (b3o 26 P) .nil .nil)) (.node (o53v44 P) (.node (b3o 10 P) .nil .nil) (.node (o117v75 P) .nil .nil))) (.node (o29v20 P) (.node (o45v36 P) (.node (b3o 2 P) .nil .nil) (.node (b3o 34 P) .nil .nil)) (.node (o61v53 P) (.node (b3o 18 P) .nil .nil) .nil))))) (.node (boot_o_2 P) (.node (boot_o_4 P) (.node (boot_o_8 P) (.node (o16v7 P) (.node (o32v23 P) (.node (o64v56 P) .nil .nil) (.node (b3o 21 P) .nil .nil)) (.node (o48v39 P) (.node (b3o 5 P) .nil .nil) (.node (b3o 37 P) .nil .nil))) (.node (o24v15 P) (.node (o40v31 P) (.node (o72v66 P) .nil .nil) (.node (b3o 29 P) .nil .nil)) (.node (o56v47 P) (.node (b3o 13 P) .nil .nil) (.node (o120v78 P) .nil .nil)))) (.node (o12v71 P) (.node (o20v11 P) (.node (o36v27 P) (.node (o68v62 P) .nil .nil) (.node (b3o 25 P) .nil .nil)) (.node (o52v43 P) (.node (b3o 9 P) .nil .nil) (.node (o116v74 P) .nil .nil))) (.node (o28v19 P) (.node (o44v35 P) (.node (b3o 1 P) .nil .nil) (.node (b3o 33 P) .nil .nil)) (.node (o60v52 P) (.node (b3o 17 P) .nil .nil) .nil)))) (.node (boot_o_6 P) (.node (boot_o_10 P) (.node (o18v9 P) (.node (o34v25 P) (.node (o66v58 P) .nil .nil) (.node (b3o 23 P) .nil .nil)) (.node (o50v41 P) (.node (b3o 7 P) .nil .nil) (.node (o114v72 P) .nil .nil))) (.node (o26v17 P) (.node (o42v33 P) (.node (o74v68 P) .nil .nil) (.node (b3o 31 P) .nil .nil)) (.node (o58v50 P) (.node (b3o 15 P) .nil .nil) .nil))) (.node (o14v3 P) (.node (o22v13 P) (.node (o38v29 P) (.node (o70v64 P) .nil .nil) (.node (b3o 27 P) .nil .nil)) (.node (o54v45 P) (.node (b3o 11 P) .nil .nil) (.node (o118v76 P) .nil .nil))) (.node (o30v21 P) (.node (o46v37 P) (.node (b3o 3 P) .nil .nil) (.node (b3o 35 P) .nil .nil)) (.node (o62v54 P) (.node (b3o 19 P) .nil .nil) .nil))))))
noncomputable def S5 (w:World) (os:OsState):SharedT:=⟨TS5 w.params,121,{},⟨[]⟩,{},2356,os⟩
noncomputable def posS5:Pos:=⟨144,0,144,10⟩
noncomputable def g46 (P:Params):DictEntry:=⟨PyData.keyHash P (k [76,69,70,84,83,72,73,70,84]),(.str (k [76,69,70,84,83,72,73,70,84]) 2357),(.int (33) 2356)⟩
noncomputable def g47 (P:Params):DictEntry:=⟨PyData.keyHash P (k [82,73,71,72,84,83,72,73,70,84]),(.str (k [82,73,71,72,84,83,72,73,70,84]) 2359),(.int (34) 2358)⟩
noncomputable def g48 (P:Params):DictEntry:=⟨PyData.keyHash P (k [68,79,85,66,76,69,83,84,65,82]),(.str (k [68,79,85,66,76,69,83,84,65,82]) 2361),(.int (35) 2360)⟩
noncomputable def g49 (P:Params):DictEntry:=⟨PyData.keyHash P (k [80,76,85,83,69,81,85,65,76]),(.str (k [80,76,85,83,69,81,85,65,76]) 2363),(.int (36) 2362)⟩
noncomputable def g50 (P:Params):DictEntry:=⟨PyData.keyHash P (k [77,73,78,69,81,85,65,76]),(.str (k [77,73,78,69,81,85,65,76]) 2365),(.int (37) 2364)⟩
noncomputable def g51 (P:Params):DictEntry:=⟨PyData.keyHash P (k [83,84,65,82,69,81,85,65,76]),(.str (k [83,84,65,82,69,81,85,65,76]) 2367),(.int (38) 2366)⟩
noncomputable def g52 (P:Params):DictEntry:=⟨PyData.keyHash P (k [83,76,65,83,72,69,81,85,65,76]),(.str (k [83,76,65,83,72,69,81,85,65,76]) 2369),(.int (39) 2368)⟩
noncomputable def g53 (P:Params):DictEntry:=⟨PyData.keyHash P (k [80,69,82,67,69,78,84,69,81,85,65,76]),(.str (k [80,69,82,67,69,78,84,69,81,85,65,76]) 2371),(.int (40) 2370)⟩
noncomputable def g54 (P:Params):DictEntry:=⟨PyData.keyHash P (k [65,77,80,69,82,69,81,85,65,76]),(.str (k [65,77,80,69,82,69,81,85,65,76]) 2373),(.int (41) 2372)⟩
noncomputable def g55 (P:Params):DictEntry:=⟨PyData.keyHash P (k [86,66,65,82,69,81,85,65,76]),(.str (k [86,66,65,82,69,81,85,65,76]) 2375),(.int (42) 2374)⟩
noncomputable def g56 (P:Params):DictEntry:=⟨PyData.keyHash P (k [67,73,82,67,85,77,70,76,69,88,69,81,85,65,76]),(.str (k [67,73,82,67,85,77,70,76,69,88,69,81,85,65,76]) 2377),(.int (43) 2376)⟩
noncomputable def g57 (P:Params):DictEntry:=⟨PyData.keyHash P (k [76,69,70,84,83,72,73,70,84,69,81,85,65,76]),(.str (k [76,69,70,84,83,72,73,70,84,69,81,85,65,76]) 2379),(.int (44) 2378)⟩
noncomputable def g58 (P:Params):DictEntry:=⟨PyData.keyHash P (k [82,73,71,72,84,83,72,73,70,84,69,81,85,65,76]),(.str (k [82,73,71,72,84,83,72,73,70,84,69,81,85,65,76]) 2381),(.int (45) 2380)⟩
noncomputable def g59 (P:Params):DictEntry:=⟨PyData.keyHash P (k [68,79,85,66,76,69,83,84,65,82,69,81,85,65,76]),(.str (k [68,79,85,66,76,69,83,84,65,82,69,81,85,65,76]) 2383),(.int (46) 2382)⟩
noncomputable def g60 (P:Params):DictEntry:=⟨PyData.keyHash P (k [68,79,85,66,76,69,83,76,65,83,72]),(.str (k [68,79,85,66,76,69,83,76,65,83,72]) 2385),(.int (47) 2384)⟩
noncomputable def g61 (P:Params):DictEntry:=⟨PyData.keyHash P (k [68,79,85,66,76,69,83,76,65,83,72,69,81,85,65,76]),(.str (k [68,79,85,66,76,69,83,76,65,83,72,69,81,85,65,76]) 2387),(.int (48) 2386)⟩
noncomputable def g62 (P:Params):DictEntry:=⟨PyData.keyHash P (k [65,84]),(.str (k [65,84]) 2389),(.int (49) 2388)⟩
noncomputable def g63 (P:Params):DictEntry:=⟨PyData.keyHash P (k [65,84,69,81,85,65,76]),(.str (k [65,84,69,81,85,65,76]) 2391),(.int (50) 2390)⟩
noncomputable def g64 (P:Params):DictEntry:=⟨PyData.keyHash P (k [82,65,82,82,79,87]),(.str (k [82,65,82,82,79,87]) 2393),(.int (51) 2392)⟩
noncomputable def g65 (P:Params):DictEntry:=⟨PyData.keyHash P (k [69,76,76,73,80,83,73,83]),(.str (k [69,76,76,73,80,83,73,83]) 2395),(.int (52) 2394)⟩
noncomputable def g66 (P:Params):DictEntry:=⟨PyData.keyHash P (k [67,79,76,79,78,69,81,85,65,76]),(.str (k [67,79,76,79,78,69,81,85,65,76]) 2397),(.int (53) 2396)⟩
noncomputable def g67 (P:Params):DictEntry:=⟨PyData.keyHash P (k [69,88,67,76,65,77,65,84,73,79,78]),(.str (k [69,88,67,76,65,77,65,84,73,79,78]) 2399),(.int (54) 2398)⟩
noncomputable def g68 (P:Params):DictEntry:=⟨PyData.keyHash P (k [78,84,95,79,70,70,83,69,84]),(.str (k [78,84,95,79,70,70,83,69,84]) 2401),(.int (256) 2400)⟩
noncomputable def o3v79 (P:Params):Obj:=⟨(.type "dict"),none,(.dict ⟨[g18 P,g1 P,g2 P,g3 P,g4 P,g5 P,g6 P,g7 P,g8 P,g9 P,g10 P,g11 P,g12 P,g13 P,g14 P,g15 P,g16 P,g17 P,g19 P,g20 P,g21 P,g22 P,g23 P,g24 P,g25 P,g26 P,g27 P,g28 P,g29 P,g30 P,g31 P,g32 P,g33 P,g34 P,g35 P,g36 P,g37 P,g38 P,g39 P,g40 P,g41 P,g42 P,g43 P,g44 P,g45 P,g46 P,g47 P,g48 P,g49 P,g50 P,g51 P,g52 P,g53 P,g54 P,g55 P,g56 P,g57 P,g58 P,g59 P,g60 P,g61 P,g62 P,g63 P,g64 P,g65 P,g66 P,g67 P,g68 P]⟩ 68),⟨[]⟩⟩
noncomputable def TS6 (P:Params):BT:=(.node (boot_o_0 P) (.node (boot_o_1 P) (.node (o3v79 P) (.node (boot_o_7 P) (.node (o15v6 P) (.node (o31v22 P) (.node (o63v55 P) .nil .nil) (.node (b3o 20 P) .nil .nil)) (.node (o47v38 P) (.node (b3o 4 P) .nil .nil) (.node (b3o 36 P) .nil .nil))) (.node (o23v14 P) (.node (o39v30 P) (.node (o71v65 P) .nil .nil) (.node (b3o 28 P) .nil .nil)) (.node (o55v46 P) (.node (b3o 12 P) .nil .nil) (.node (o119v77 P) .nil .nil)))) (.node (o11v0 P) (.node (o19v10 P) (.node (o35v26 P) (.node (o67v59 P) .nil .nil) (.node (b3o 24 P) .nil .nil)) (.node (o51v42 P) (.node (b3o 8 P) .nil .nil) (.node (o115v73 P) .nil .nil))) (.node (o27v18 P) (.node (o43v34 P) (.node (b3o 0 P) .nil .nil) (.node (b3o 32 P) .nil .nil)) (.node (o59v51 P) (.node (b3o 16 P) .nil .nil) .nil)))) (.node (boot_o_5 P) (.node (boot_o_9 P) (.node (o17v8 P) (.node (o33v24 P) (.node (o65v57 P) .nil .nil) (.node (b3o 22 P) .nil .nil)) (.node (o49v40 P) (.node (b3o 6 P) .nil .nil) (.node (b3o 38 P) .nil .nil))) (.node (o25v16 P) (.node (o41v32 P) (.node (o73v67 P) .nil .nil) (.node (b3o 30 P) .nil .nil)) (.node (o57v49 P) (.node (b3o 14 P) .nil .nil) .nil))) (.node (o13v2 P) (.node (o21v12 P) (.node (o37v28 P) (.node (o69v63 P) .nil .nil) (.node (b3o 26 P) .nil .nil)) (.node (o53v44 P) (.node (b3o 10 P) .nil .nil) (.node (o117v75 P) .nil .nil))) (.node (o29v20 P) (.node (o45v36 P) (.node (b3o 2 P) .nil .nil) (.node (b3o 34 P) .nil .nil)) (.node (o61v53 P) (.node (b3o 18 P) .nil .nil) .nil))))) (.node (boot_o_2 P) (.node (boot_o_4 P) (.node (boot_o_8 P) (.node (o16v7 P) (.node (o32v23 P) (.node (o64v56 P) .nil .nil) (.node (b3o 21 P) .nil .nil)) (.node (o48v39 P) (.node (b3o 5 P) .nil .nil) (.node (b3o 37 P) .nil .nil))) (.node (o24v15 P) (.node (o40v31 P) (.node (o72v66 P) .nil .nil) (.node (b3o 29 P) .nil .nil)) (.node (o56v47 P) (.node (b3o 13 P) .nil .nil) (.node (o120v78 P) .nil .nil)))) (.node (o12v71 P) (.node (o20v11 P) (.node (o36v27 P) (.node (o68v62 P) .nil .nil) (.node (b3o 25 P) .nil .nil)) (.node (o52v43 P) (.node (b3o 9 P) .nil .nil) (.node (o116v74 P) .nil .nil))) (.node (o28v19 P) (.node (o44v35 P) (.node (b3o 1 P) .nil .nil) (.node (b3o 33 P) .nil .nil)) (.node (o60v52 P) (.node (b3o 17 P) .nil .nil) .nil)))) (.node (boot_o_6 P) (.node (boot_o_10 P) (.node (o18v9 P) (.node (o34v25 P) (.node (o66v58 P) .nil .nil) (.node (b3o 23 P) .nil .nil)) (.node (o50v41 P) (.node (b3o 7 P) .nil .nil) (.node (o114v72 P) .nil .nil))) (.node (o26v17 P) (.node (o42v33 P) (.node (o74v68 P) .nil .nil) (.node (b3o 31 P) .nil .nil)) (.node (o58v50 P) (.node (b3o 15 P) .nil .nil) .nil))) (.node (o14v3 P) (.node (o22v13 P) (.node (o38v29 P) (.node (o70v64 P) .nil .nil) (.node (b3o 27 P) .nil .nil)) (.node (o54v45 P) (.node (b3o 11 P) .nil .nil) (.node (o118v76 P) .nil .nil))) (.node (o30v21 P) (.node (o46v37 P) (.node (b3o 3 P) .nil .nil) (.node (b3o 35 P) .nil .nil)) (.node (o62v54 P) (.node (b3o 19 P) .nil .nil) .nil))))))
noncomputable def S6 (w:World) (os:OsState):SharedT:=⟨TS6 w.params,121,{},⟨[]⟩,{},2402,os⟩
noncomputable def posS6:Pos:=⟨167,0,167,9⟩
noncomputable def g69 (P:Params):DictEntry:=⟨PyData.keyHash P (k [69,88,65,67,84,95,84,79,75,69,78,95,84,89,80,69,83]),(.str (k [69,88,65,67,84,95,84,79,75,69,78,95,84,89,80,69,83]) 2498),(.ref 121)⟩
noncomputable def o3v80 (P:Params):Obj:=⟨(.type "dict"),none,(.dict ⟨[g18 P,g1 P,g2 P,g3 P,g4 P,g5 P,g6 P,g7 P,g8 P,g9 P,g10 P,g11 P,g12 P,g13 P,g14 P,g15 P,g16 P,g17 P,g19 P,g20 P,g21 P,g22 P,g23 P,g24 P,g25 P,g26 P,g27 P,g28 P,g29 P,g30 P,g31 P,g32 P,g33 P,g34 P,g35 P,g36 P,g37 P,g38 P,g39 P,g40 P,g41 P,g42 P,g43 P,g44 P,g45 P,g46 P,g47 P,g48 P,g49 P,g50 P,g51 P,g52 P,g53 P,g54 P,g55 P,g56 P,g57 P,g58 P,g59 P,g60 P,g61 P,g62 P,g63 P,g64 P,g65 P,g66 P,g67 P,g68 P,g69 P]⟩ 69),⟨[]⟩⟩
noncomputable def o121v81 (P:Params):Obj:=⟨(.type "dict"),none,(.dict ⟨[⟨PyData.keyHash P (k [33]),(.str (k [33]) 2402),(.int (54) 2398)⟩,⟨PyData.keyHash P (k [33,61]),(.str (k [33,61]) 2404),(.int (28) 2346)⟩,⟨PyData.keyHash P (k [37]),(.str (k [37]) 2406),(.int (24) 2338)⟩,⟨PyData.keyHash P (k [37,61]),(.str (k [37,61]) 2408),(.int (40) 2370)⟩,⟨PyData.keyHash P (k [38]),(.str (k [38]) 2410),(.int (19) 2328)⟩,⟨PyData.keyHash P (k [38,61]),(.str (k [38,61]) 2412),(.int (41) 2372)⟩,⟨PyData.keyHash P (k [40]),(.str (k [40]) 2414),(.int (7) 2304)⟩,⟨PyData.keyHash P (k [41]),(.str (k [41]) 2416),(.int (8) 2306)⟩,⟨PyData.keyHash P (k [42]),(.str (k [42]) 2418),(.int (16) 2322)⟩,⟨PyData.keyHash P (k [42,42]),(.str (k [42,42]) 2420),(.int (35) 2360)⟩,⟨PyData.keyHash P (k [42,42,61]),(.str (k [42,42,61]) 2422),(.int (46) 2382)⟩,⟨PyData.keyHash P (k [42,61]),(.str (k [42,61]) 2424),(.int (38) 2366)⟩,⟨PyData.keyHash P (k [43]),(.str (k [43]) 2426),(.int (14) 2318)⟩,⟨PyData.keyHash P (k [43,61]),(.str (k [43,61]) 2428),(.int (36) 2362)⟩,⟨PyData.keyHash P (k [44]),(.str (k [44]) 2430),(.int (12) 2314)⟩,⟨PyData.keyHash P (k [45]),(.str (k [45]) 2432),(.int (15) 2320)⟩,⟨PyData.keyHash P (k [45,61]),(.str (k [45,61]) 2434),(.int (37) 2364)⟩,⟨PyData.keyHash P (k [45,62]),(.str (k [45,62]) 2436),(.int (51) 2392)⟩,⟨PyData.keyHash P (k [46]),(.str (k [46]) 2438),(.int (23) 2336)⟩,⟨PyData.keyHash P (k [46,46,46]),(.str (k [46,46,46]) 2440),(.int (52) 2394)⟩,⟨PyData.keyHash P (k [47]),(.str (k [47]) 2442),(.int (17) 2324)⟩,⟨PyData.keyHash P (k [47,47]),(.str (k [47,47]) 2444),(.int (47) 2384)⟩,⟨PyData.keyHash P (k [47,47,61]),(.str (k [47,47,61]) 2446),(.int (48) 2386)⟩,⟨PyData.keyHash P (k [47,61]),(.str (k [47,61]) 2448),(.int (39) 2368)⟩,⟨PyData.keyHash P (k [58]),(.str (k [58]) 2450),(.int (11) 2312)⟩,⟨PyData.keyHash P (k [58,61]),(.str (k [58,61]) 2452),(.int (53) 2396)⟩,⟨PyData.keyHash P (k [59]),(.str (k [59]) 2454),(.int (13) 2316)⟩,⟨PyData.keyHash P (k [60]),(.str (k [60]) 2456),(.int (20) 2330)⟩,⟨PyData.keyHash P (k [60,60]),(.str (k [60,60]) 2458),(.int (33) 2356)⟩,⟨PyData.keyHash P (k [60,60,61]),(.str (k [60,60,61]) 2460),(.int (44) 2378)⟩,⟨PyData.keyHash P (k [60,61]),(.str (k [60,61]) 2462),(.int (29) 2348)⟩,⟨PyData.keyHash P (k [61]),(.str (k [61]) 2464),(.int (22) 2334)⟩,⟨PyData.keyHash P (k [61,61]),(.str (k [61,61]) 2466),(.int (27) 2344)⟩,⟨PyData.keyHash P (k [62]),(.str (k [62]) 2468),(.int (21) 2332)⟩,⟨PyData.keyHash P (k [62,61]),(.str (k [62,61]) 2470),(.int (30) 2350)⟩,⟨PyData.keyHash P (k [62,62]),(.str (k [62,62]) 2471),(.int (34) 2358)⟩,⟨PyData.keyHash P (k [62,62,61]),(.str (k [62,62,61]) 2472),(.int (45) 2380)⟩,⟨PyData.keyHash P (k [64]),(.str (k [64]) 2473),(.int (49) 2388)⟩,⟨PyData.keyHash P (k [64,61]),(.str (k [64,61]) 2474),(.int (50) 2390)⟩,⟨PyData.keyHash P (k [91]),(.str (k [91]) 2475),(.int (9) 2308)⟩,⟨PyData.keyHash P (k [93]),(.str (k [93]) 2476),(.int (10) 2310)⟩,⟨PyData.keyHash P (k [94]),(.str (k [94]) 2477),(.int (32) 2354)⟩,⟨PyData.keyHash P (k [94,61]),(.str (k [94,61]) 2478),(.int (43) 2376)⟩,⟨PyData.keyHash P (k [123]),(.str (k [123]) 2479),(.int (25) 2340)⟩,⟨PyData.keyHash P (k [124]),(.str (k [124]) 2480),(.int (18) 2326)⟩,⟨PyData.keyHash P (k [124,61]),(.str (k [124,61]) 2481),(.int (42) 2374)⟩,⟨PyData.keyHash P (k [125]),(.str (k [125]) 2482),(.int (26) 2342)⟩,⟨PyData.keyHash P (k [126]),(.str (k [126]) 2483),(.int (31) 2352)⟩]⟩ 48),⟨[]⟩⟩
noncomputable def o122v82 (P:Params):Obj:=⟨(.type "dict"),none,(.dict ⟨[⟨PyData.keyHash P (k [45,62]),(.str (k [45,62]) 2436),(.int (51) 2392)⟩,⟨PyData.keyHash P (k [46]),(.str (k [46]) 2438),(.int (23) 2336)⟩,⟨PyData.keyHash P (k [46,46,46]),(.str (k [46,46,46]) 2440),(.int (52) 2394)⟩,⟨PyData.keyHash P (k [47]),(.str (k [47]) 2442),(.int (17) 2324)⟩,⟨PyData.keyHash P (k [47,47]),(.str (k [47,47]) 2444),(.int (47) 2384)⟩,⟨PyData.keyHash P (k [47,47,61]),(.str (k [47,47,61]) 2446),(.int (48) 2386)⟩,⟨PyData.keyHash P (k [47,61]),(.str (k [47,61]) 2448),(.int (39) 2368)⟩,⟨PyData.keyHash P (k [58]),(.str (k [58]) 2450),(.int (11) 2312)⟩,⟨PyData.keyHash P (k [58,61]),(.str (k [58,61]) 2452),(.int (53) 2396)⟩,⟨PyData.keyHash P (k [59]),(.str (k [59]) 2454),(.int (13) 2316)⟩,⟨PyData.keyHash P (k [60]),(.str (k [60]) 2456),(.int (20) 2330)⟩,⟨PyData.keyHash P (k [60,60]),(.str (k [60,60]) 2458),(.int (33) 2356)⟩,⟨PyData.keyHash P (k [60,60,61]),(.str (k [60,60,61]) 2460),(.int (44) 2378)⟩,⟨PyData.keyHash P (k [60,61]),(.str (k [60,61]) 2462),(.int (29) 2348)⟩,⟨PyData.keyHash P (k [61]),(.str (k [61]) 2464),(.int (22) 2334)⟩,⟨PyData.keyHash P (k [61,61]),(.str (k [61,61]) 2466),(.int (27) 2344)⟩,⟨PyData.keyHash P (k [62]),(.str (k [62]) 2468),(.int (21) 2332)⟩]⟩ 17),⟨[]⟩⟩
noncomputable def o123v83 (P:Params):Obj:=⟨(.type "dict"),none,(.dict ⟨[⟨PyData.keyHash P (k [62,61]),(.str (k [62,61]) 2470),(.int (30) 2350)⟩,⟨PyData.keyHash P (k [62,62]),(.str (k [62,62]) 2471),(.int (34) 2358)⟩,⟨PyData.keyHash P (k [62,62,61]),(.str (k [62,62,61]) 2472),(.int (45) 2380)⟩,⟨PyData.keyHash P (k [64]),(.str (k [64]) 2473),(.int (49) 2388)⟩,⟨PyData.keyHash P (k [64,61]),(.str (k [64,61]) 2474),(.int (50) 2390)⟩,⟨PyData.keyHash P (k [91]),(.str (k [91]) 2475),(.int (9) 2308)⟩,⟨PyData.keyHash P (k [93]),(.str (k [93]) 2476),(.int (10) 2310)⟩,⟨PyData.keyHash P (k [94]),(.str (k [94]) 2477),(.int (32) 2354)⟩,⟨PyData.keyHash P (k [94,61]),(.str (k [94,61]) 2478),(.int (43) 2376)⟩,⟨PyData.keyHash P (k [123]),(.str (k [123]) 2479),(.int (25) 2340)⟩,⟨PyData.keyHash P (k [124]),(.str (k [124]) 2480),(.int (18) 2326)⟩,⟨PyData.keyHash P (k [124,61]),(.str (k [124,61]) 2481),(.int (42) 2374)⟩,⟨PyData.keyHash P (k [125]),(.str (k [125]) 2482),(.int (26) 2342)⟩,⟨PyData.keyHash P (k [126]),(.str (k [126]) 2483),(.int (31) 2352)⟩]⟩ 14),⟨[]⟩⟩
noncomputable def TS7 (P:Params):BT:=(.node (boot_o_0 P) (.node (boot_o_1 P) (.node (o3v80 P) (.node (boot_o_7 P) (.node (o15v6 P) (.node (o31v22 P) (.node (o63v55 P) .nil .nil) (.node (b3o 20 P) .nil .nil)) (.node (o47v38 P) (.node (b3o 4 P) .nil .nil) (.node (b3o 36 P) .nil .nil))) (.node (o23v14 P) (.node (o39v30 P) (.node (o71v65 P) .nil .nil) (.node (b3o 28 P) .nil .nil)) (.node (o55v46 P) (.node (b3o 12 P) .nil .nil) (.node (o119v77 P) .nil .nil)))) (.node (o11v0 P) (.node (o19v10 P) (.node (o35v26 P) (.node (o67v59 P) .nil .nil) (.node (b3o 24 P) .nil .nil)) (.node (o51v42 P) (.node (b3o 8 P) .nil .nil) (.node (o115v73 P) .nil .nil))) (.node (o27v18 P) (.node (o43v34 P) (.node (b3o 0 P) .nil .nil) (.node (b3o 32 P) .nil .nil)) (.node (o59v51 P) (.node (b3o 16 P) .nil .nil) (.node (o123v83 P) .nil .nil))))) (.node (boot_o_5 P) (.node (boot_o_9 P) (.node (o17v8 P) (.node (o33v24 P) (.node (o65v57 P) .nil .nil) (.node (b3o 22 P) .nil .nil)) (.node (o49v40 P) (.node (b3o 6 P) .nil .nil) (.node (b3o 38 P) .nil .nil))) (.node (o25v16 P) (.node (o41v32 P) (.node (o73v67 P) .nil .nil) (.node (b3o 30 P) .nil .nil)) (.node (o57v49 P) (.node (b3o 14 P) .nil .nil) (.node (o121v81 P) .nil .nil)))) (.node (o13v2 P) (.node (o21v12 P) (.node (o37v28 P) (.node (o69v63 P) .nil .nil) (.node (b3o 26 P) .nil .nil)) (.node (o53v44 P) (.node (b3o 10 P) .nil .nil) (.node (o117v75 P) .nil .nil))) (.node (o29v20 P) (.node (o45v36 P) (.node (b3o 2 P) .nil .nil) (.node (b3o 34 P) .nil .nil)) (.node (o61v53 P) (.node (b3o 18 P) .nil .nil) .nil))))) (.node (boot_o_2 P) (.node (boot_o_4 P) (.node (boot_o_8 P) (.node (o16v7 P) (.node (o32v23 P) (.node (o64v56 P) .nil .nil) (.node (b3o 21 P) .nil .nil)) (.node (o48v39 P) (.node (b3o 5 P) .nil .nil) (.node (b3o 37 P) .nil .nil))) (.node (o24v15 P) (.node (o40v31 P) (.node (o72v66 P) .nil .nil) (.node (b3o 29 P) .nil .nil)) (.node (o56v47 P) (.node (b3o 13 P) .nil .nil) (.node (o120v78 P) .nil .nil)))) (.node (o12v71 P) (.node (o20v11 P) (.node (o36v27 P) (.node (o68v62 P) .nil .nil) (.node (b3o 25 P) .nil .nil)) (.node (o52v43 P) (.node (b3o 9 P) .nil .nil) (.node (o116v74 P) .nil .nil))) (.node (o28v19 P) (.node (o44v35 P) (.node (b3o 1 P) .nil .nil) (.node (b3o 33 P) .nil .nil)) (.node (o60v52 P) (.node (b3o 17 P) .nil .nil) .nil)))) (.node (boot_o_6 P) (.node (boot_o_10 P) (.node (o18v9 P) (.node (o34v25 P) (.node (o66v58 P) .nil .nil) (.node (b3o 23 P) .nil .nil)) (.node (o50v41 P) (.node (b3o 7 P) .nil .nil) (.node (o114v72 P) .nil .nil))) (.node (o26v17 P) (.node (o42v33 P) (.node (o74v68 P) .nil .nil) (.node (b3o 31 P) .nil .nil)) (.node (o58v50 P) (.node (b3o 15 P) .nil .nil) (.node (o122v82 P) .nil .nil)))) (.node (o14v3 P) (.node (o22v13 P) (.node (o38v29 P) (.node (o70v64 P) .nil .nil) (.node (b3o 27 P) .nil .nil)) (.node (o54v45 P) (.node (b3o 11 P) .nil .nil) (.node (o118v76 P) .nil .nil))) (.node (o30v21 P) (.node (o46v37 P) (.node (b3o 3 P) .nil .nil) (.node (b3o 35 P) .nil .nil)) (.node (o62v54 P) (.node (b3o 19 P) .nil .nil) .nil))))))
noncomputable def S7 (w:World) (os:OsState):SharedT:=⟨TS7 w.params,124,{},⟨[]⟩,{},2499,os⟩
noncomputable def posS7:Pos:=⟨168,0,168,17⟩
noncomputable def g70 (P:Params):DictEntry:=⟨PyData.keyHash P (k [95,95,110,97,109,101,95,95]),(.str (k [95,95,110,97,109,101,95,95]) 165),(.str (k [108,97,119,95,119,102,48,49,48,49,95,48,49]) 2513)⟩
noncomputable def g71 (P:Params):DictEntry:=⟨PyData.keyHash P (k [73,83,84,69,82,77,73,78,65,76]),(.str (k [73,83,84,69,82,77,73,78,65,76]) 2505),(.ref 130)⟩
noncomputable def g72 (P:Params):DictEntry:=⟨PyData.keyHash P (k [73,83,78,79,78,84,69,82,77,73,78,65,76]),(.str (k [73,83,78,79,78,84,69,82,77,73,78,65,76]) 2512),(.ref 137)⟩
noncomputable def g73 (P:Params):DictEntry:=⟨PyData.keyHash P (k [95,108,97,119,95,100,114,97,119,110]),(.str (k [95,108,97,119,95,100,114,97,119,110]) 2540),(.ref 144)⟩
noncomputable def g74 (P:Params):DictEntry:=⟨PyData.keyHash P (k [95,108,97,119,95,115,121,109,98,111,108,115]),(.str (k [95,108,97,119,95,115,121,109,98,111,108,115]) 2555),(.ref 151)⟩
noncomputable def g75 (P:Params):DictEntry:=⟨PyData.keyHash P (k [95,108,97,119,95,114,101,97,100]),(.str (k [95,108,97,119,95,114,101,97,100]) 2561),(.ref 156)⟩
noncomputable def g76 (P:Params):DictEntry:=⟨PyData.keyHash P (k [95,108,97,119,95,116,114,105,97,110,103,108,101,115]),(.str (k [95,108,97,119,95,116,114,105,97,110,103,108,101,115]) 2573),(.ref 163)⟩
noncomputable def g77 (P:Params):DictEntry:=⟨PyData.keyHash P (k [95,108,97,119,95,109,105,120]),(.str (k [95,108,97,119,95,109,105,120]) 2581),(.ref 170)⟩
noncomputable def g78 (P:Params):DictEntry:=⟨PyData.keyHash P (k [95,108,97,119,95,112,97,105,110,116,101,100]),(.str (k [95,108,97,119,95,112,97,105,110,116,101,100]) 2594),(.ref 177)⟩
noncomputable def g79 (P:Params):DictEntry:=⟨PyData.keyHash P (k [95,108,97,119,95,119,97,121,115]),(.str (k [95,108,97,119,95,119,97,121,115]) 2600),(.ref 182)⟩
noncomputable def g80 (P:Params):DictEntry:=⟨PyData.keyHash P (k [108,97,119]),(.str (k [108,97,119]) 2606),(.ref 187)⟩
noncomputable def o3v84 (P:Params):Obj:=⟨(.type "dict"),none,(.dict ⟨[g70 P,g1 P,g2 P,g3 P,g4 P,g5 P,g6 P,g7 P,g8 P,g9 P,g10 P,g11 P,g12 P,g13 P,g14 P,g15 P,g16 P,g17 P,g19 P,g20 P,g21 P,g22 P,g23 P,g24 P,g25 P,g26 P,g27 P,g28 P,g29 P,g30 P,g31 P,g32 P,g33 P,g34 P,g35 P,g36 P,g37 P,g38 P,g39 P,g40 P,g41 P,g42 P,g43 P,g44 P,g45 P,g46 P,g47 P,g48 P,g49 P,g50 P,g51 P,g52 P,g53 P,g54 P,g55 P,g56 P,g57 P,g58 P,g59 P,g60 P,g61 P,g62 P,g63 P,g64 P,g65 P,g66 P,g67 P,g68 P,g69 P,g71 P,g72 P,g73 P,g74 P,g75 P,g76 P,g77 P,g78 P,g79 P,g80 P]⟩ 79),⟨[]⟩⟩
noncomputable def o12v85 (P:Params):Obj:=⟨.none,none,(.fields ⟨[(.int (2) 0),(.int (0) 0),(.ref 20),(.int (15) 0),(.int (0) 0),(.ref 27),(.int (33) 0),(.int (0) 0),(.ref 34),(.int (45) 0),(.int (0) 0),(.ref 41),(.int (68) 0),(.int (0) 0),(.ref 48),(.int (87) 0),(.int (0) 0),(.ref 55),(.int (110) 0),(.int (0) 0),(.ref 73),(.int (113) 0),(.int (0) 0),(.ref 119),(.int (169) 0),(.int (0) 0),(.ref 129),(.int (171) 0),(.int (0) 0),(.ref 136),(.int (174) 0),(.int (0) 0),(.ref 143),(.int (199) 0),(.int (0) 0),(.ref 150),(.int (218) 0),(.int (0) 0),(.ref 155),(.int (230) 0),(.int (0) 0),(.ref 162),(.int (236) 0),(.int (0) 0),(.ref 169),(.int (238) 0),(.int (0) 0),(.ref 176),(.int (244) 0),(.int (0) 0),(.ref 181),(.int (257) 0),(.int (0) 0),(.ref 186)]⟩),⟨[]⟩⟩
noncomputable def o124v86 (P:Params):Obj:=⟨(.type "tuple"),none,(.seq ⟨[]⟩ 0),⟨[]⟩⟩
noncomputable def o125v87 (P:Params):Obj:=⟨.none,none,(.fields ⟨[]⟩),⟨[]⟩⟩
noncomputable def o126v88 (P:Params):Obj:=⟨(.type "tuple"),none,(.seq ⟨[(.str (k [120]) 2502)]⟩ 0),⟨[]⟩⟩
noncomputable def o127v89 (P:Params):Obj:=⟨(.type "tuple"),none,(.seq ⟨[]⟩ 0),⟨[]⟩⟩
noncomputable def o128v90 (P:Params):Obj:=⟨.none,none,(.func { name:=(k [73,83,84,69,82,77,73,78,65,76]),qualname:=(k [73,83,84,69,82,77,73,78,65,76]),params:=fnP 64,body:=fnB 64,scope:=fnS 64,globals:=0,closure:=[],defaults:=.none,kwdefaults:=.none,doc:=.none,pyModule:=.none,annotations:=none,code:=.none,closureTuple:=.none,builtins:=0 }),⟨[]⟩⟩
noncomputable def o129v91 (P:Params):Obj:=⟨(.type "code"),none,(.fields ⟨[(.str (k [73,83,84,69,82,77,73,78,65,76]) 2499),(.str (k [73,83,84,69,82,77,73,78,65,76]) 2500),(.str (k [47,99,108,97,105,109,47,99,117,116,46,112,121]) 2501),(.int (169) 0),(.int (1) 0),(.int (0) 0),(.int (0) 0),(.int (3) 0),(.ref 124),(.bool true),(.int (181) 0),(.ref 125),.none,(.ref 126),(.ref 127),(.ref 128),(.int (2503) 0),(.int (169) 0),(.str (k [47,99,108,97,105,109,47,99,117,116,46,112,121]) 2504)]⟩),⟨[]⟩⟩
noncomputable def o130v92 (P:Params):Obj:=⟨(.type "function"),none,(.func { name:=(k [73,83,84,69,82,77,73,78,65,76]),qualname:=(k [73,83,84,69,82,77,73,78,65,76]),params:=fnP 64,body:=fnB 64,scope:=fnS 64,globals:=3,closure:=[],defaults:=.none,kwdefaults:=.none,doc:=.none,pyModule:=(.str (k [99,112,121,51,49,51,46,116,111,107,101,110]) 2302),annotations:=none,code:=(.ref 129),closureTuple:=.none,builtins:=0 }),⟨[]⟩⟩
noncomputable def o131v93 (P:Params):Obj:=⟨(.type "tuple"),none,(.seq ⟨[]⟩ 0),⟨[]⟩⟩
noncomputable def o132v94 (P:Params):Obj:=⟨.none,none,(.fields ⟨[]⟩),⟨[]⟩⟩
noncomputable def o133v95 (P:Params):Obj:=⟨(.type "tuple"),none,(.seq ⟨[(.str (k [120]) 2509)]⟩ 0),⟨[]⟩⟩
noncomputable def o134v96 (P:Params):Obj:=⟨(.type "tuple"),none,(.seq ⟨[]⟩ 0),⟨[]⟩⟩
noncomputable def o135v97 (P:Params):Obj:=⟨.none,none,(.func { name:=(k [73,83,78,79,78,84,69,82,77,73,78,65,76]),qualname:=(k [73,83,78,79,78,84,69,82,77,73,78,65,76]),params:=fnP 65,body:=fnB 65,scope:=fnS 65,globals:=0,closure:=[],defaults:=.none,kwdefaults:=.none,doc:=.none,pyModule:=.none,annotations:=none,code:=.none,closureTuple:=.none,builtins:=0 }),⟨[]⟩⟩
noncomputable def o136v98 (P:Params):Obj:=⟨(.type "code"),none,(.fields ⟨[(.str (k [73,83,78,79,78,84,69,82,77,73,78,65,76]) 2506),(.str (k [73,83,78,79,78,84,69,82,77,73,78,65,76]) 2507),(.str (k [47,99,108,97,105,109,47,99,117,116,46,112,121]) 2508),(.int (171) 0),(.int (1) 0),(.int (0) 0),(.int (0) 0),(.int (3) 0),(.ref 131),(.bool true),(.int (181) 0),(.ref 132),.none,(.ref 133),(.ref 134),(.ref 135),(.int (2510) 0),(.int (171) 0),(.str (k [47,99,108,97,105,109,47,99,117,116,46,112,121]) 2511)]⟩),⟨[]⟩⟩
noncomputable def o137v99 (P:Params):Obj:=⟨(.type "function"),none,(.func { name:=(k [73,83,78,79,78,84,69,82,77,73,78,65,76]),qualname:=(k [73,83,78,79,78,84,69,82,77,73,78,65,76]),params:=fnP 65,body:=fnB 65,scope:=fnS 65,globals:=3,closure:=[],defaults:=.none,kwdefaults:=.none,doc:=.none,pyModule:=(.str (k [99,112,121,51,49,51,46,116,111,107,101,110]) 2302),annotations:=none,code:=(.ref 136),closureTuple:=.none,builtins:=0 }),⟨[]⟩⟩
noncomputable def o138v100 (P:Params):Obj:=⟨(.type "tuple"),none,(.seq ⟨[]⟩ 0),⟨[]⟩⟩
noncomputable def o139v101 (P:Params):Obj:=⟨.none,none,(.fields ⟨[]⟩),⟨[]⟩⟩
noncomputable def o140v102 (P:Params):Obj:=⟨(.type "tuple"),none,(.seq ⟨[(.str (k [110,117,109,98,101,114,115]) 2518),(.str (k [111,112,101,114,97,116,111,114,115]) 2519),(.str (k [115,121,109,98,111,108,115]) 2520),(.str (k [115,105,103,110,115]) 2521),(.str (k [104,101,97,114,100]) 2522),(.str (k [117,110,115,101,101,110]) 2523),(.str (k [114,111,119]) 2524),(.str (k [107]) 2525),(.str (k [112,105,99,107]) 2526),(.str (k [120]) 2527),(.str (k [97,116]) 2528),(.str (k [111,110,101]) 2529),(.str (k [116,119,111]) 2530),(.str (k [115,121,109,98,111,108]) 2531),(.str (k [119,111,114,100]) 2532),(.str (k [104,105,100,100,101,110]) 2533),(.str (k [100,114,101,115,115,101,115]) 2534),(.str (k [100,114,101,115,115]) 2535),(.str (k [116,101,120,116]) 2536),(.str (k [116,114,101,101]) 2537)]⟩ 0),⟨[]⟩⟩
noncomputable def o141v103 (P:Params):Obj:=⟨(.type "tuple"),none,(.seq ⟨[]⟩ 0),⟨[]⟩⟩
noncomputable def o142v104 (P:Params):Obj:=⟨.none,none,(.func { name:=(k [95,108,97,119,95,100,114,97,119,110]),qualname:=(k [95,108,97,119,95,100,114,97,119,110]),params:=fnP 67,body:=fnB 67,scope:=fnS 67,globals:=0,closure:=[],defaults:=.none,kwdefaults:=.none,doc:=.none,pyModule:=.none,annotations:=none,code:=.none,closureTuple:=.none,builtins:=0 }),⟨[]⟩⟩
noncomputable def o143v105 (P:Params):Obj:=⟨(.type "code"),none,(.fields ⟨[(.str (k [95,108,97,119,95,100,114,97,119,110]) 2515),(.str (k [95,108,97,119,95,100,114,97,119,110]) 2516),(.str (k [47,99,108,97,105,109,47,99,117,116,46,112,121]) 2517),(.int (174) 0),(.int (1) 0),(.int (0) 0),(.int (0) 0),(.int (3) 0),(.ref 138),(.bool true),(.int (181) 0),(.ref 139),.none,(.ref 140),(.ref 141),(.ref 142),(.int (2538) 0),(.int (174) 0),(.str (k [47,99,108,97,105,109,47,99,117,116,46,112,121]) 2539)]⟩),⟨[]⟩⟩
noncomputable def o144v106 (P:Params):Obj:=⟨(.type "function"),none,(.func { name:=(k [95,108,97,119,95,100,114,97,119,110]),qualname:=(k [95,108,97,119,95,100,114,97,119,110]),params:=fnP 67,body:=fnB 67,scope:=fnS 67,globals:=3,closure:=[],defaults:=.none,kwdefaults:=.none,doc:=.none,pyModule:=(.str (k [108,97,119,95,119,102,48,49,48,49,95,48,49]) 2513),annotations:=none,code:=(.ref 143),closureTuple:=.none,builtins:=0 }),⟨[]⟩⟩
noncomputable def o145v107 (P:Params):Obj:=⟨(.type "tuple"),none,(.seq ⟨[]⟩ 0),⟨[]⟩⟩
noncomputable def o146v108 (P:Params):Obj:=⟨.none,none,(.fields ⟨[]⟩),⟨[]⟩⟩
noncomputable def o147v109 (P:Params):Obj:=⟨(.type "tuple"),none,(.seq ⟨[(.str (k [116,101,120,116]) 2544),(.str (k [114,111,119]) 2545),(.str (k [113,117,111,116,101,100]) 2546),(.str (k [100,111,110,101]) 2547),(.str (k [115,112,111,116]) 2548),(.str (k [117,110,105,116]) 2549),(.str (k [115,105,122,101]) 2550),(.str (k [119,111,114,100]) 2551),(.str (k [115,121,109,98,111,108]) 2552)]⟩ 0),⟨[]⟩⟩
noncomputable def o148v110 (P:Params):Obj:=⟨(.type "tuple"),none,(.seq ⟨[]⟩ 0),⟨[]⟩⟩
noncomputable def o149v111 (P:Params):Obj:=⟨.none,none,(.func { name:=(k [95,108,97,119,95,115,121,109,98,111,108,115]),qualname:=(k [95,108,97,119,95,115,121,109,98,111,108,115]),params:=fnP 68,body:=fnB 68,scope:=fnS 68,globals:=0,closure:=[],defaults:=.none,kwdefaults:=.none,doc:=.none,pyModule:=.none,annotations:=none,code:=.none,closureTuple:=.none,builtins:=0 }),⟨[]⟩⟩
noncomputable def o150v112 (P:Params):Obj:=⟨(.type "code"),none,(.fields ⟨[(.str (k [95,108,97,119,95,115,121,109,98,111,108,115]) 2541),(.str (k [95,108,97,119,95,115,121,109,98,111,108,115]) 2542),(.str (k [47,99,108,97,105,109,47,99,117,116,46,112,121]) 2543),(.int (199) 0),(.int (1) 0),(.int (0) 0),(.int (0) 0),(.int (3) 0),(.ref 145),(.bool true),(.int (181) 0),(.ref 146),.none,(.ref 147),(.ref 148),(.ref 149),(.int (2553) 0),(.int (199) 0),(.str (k [47,99,108,97,105,109,47,99,117,116,46,112,121]) 2554)]⟩),⟨[]⟩⟩
noncomputable def o151v113 (P:Params):Obj:=⟨(.type "function"),none,(.func { name:=(k [95,108,97,119,95,115,121,109,98,111,108,115]),qualname:=(k [95,108,97,119,95,115,121,109,98,111,108,115]),params:=fnP 68,body:=fnB 68,scope:=fnS 68,globals:=3,closure:=[],defaults:=.none,kwdefaults:=.none,doc:=.none,pyModule:=(.str (k [108,97,119,95,119,102,48,49,48,49,95,48,49]) 2513),annotations:=none,code:=(.ref 150),closureTuple:=.none,builtins:=0 }),⟨[]⟩⟩
noncomputable def o152v114 (P:Params):Obj:=⟨(.type "tuple"),none,(.seq ⟨[]⟩ 0),⟨[]⟩⟩
noncomputable def o153v115 (P:Params):Obj:=⟨.none,none,(.fields ⟨[]⟩),⟨[]⟩⟩
noncomputable def o154v116 (P:Params):Obj:=⟨.none,none,(.func { name:=(k [95,108,97,119,95,114,101,97,100]),qualname:=(k [95,108,97,119,95,114,101,97,100]),params:=fnP 69,body:=fnB 69,scope:=fnS 69,globals:=0,closure:=[],defaults:=.none,kwdefaults:=.none,doc:=.none,pyModule:=.none,annotations:=none,code:=.none,closureTuple:=.none,builtins:=0 }),⟨[]⟩⟩
noncomputable def o155v117 (P:Params):Obj:=⟨(.type "code"),none,(.fields ⟨[(.str (k [95,108,97,119,95,114,101,97,100]) 2556),(.str (k [95,108,97,119,95,114,101,97,100]) 2557),(.str (k [47,99,108,97,105,109,47,99,117,116,46,112,121]) 2558),(.int (218) 0),(.int (2) 0),(.int (0) 0),(.int (0) 0),(.int (3) 0),(.ref 152),(.bool true),(.int (181) 0),(.ref 153),.none,.none,.none,(.ref 154),(.int (2559) 0),(.int (218) 0),(.str (k [47,99,108,97,105,109,47,99,117,116,46,112,121]) 2560)]⟩),⟨[]⟩⟩
noncomputable def o156v118 (P:Params):Obj:=⟨(.type "function"),none,(.func { name:=(k [95,108,97,119,95,114,101,97,100]),qualname:=(k [95,108,97,119,95,114,101,97,100]),params:=fnP 69,body:=fnB 69,scope:=fnS 69,globals:=3,closure:=[],defaults:=.none,kwdefaults:=.none,doc:=.none,pyModule:=(.str (k [108,97,119,95,119,102,48,49,48,49,95,48,49]) 2513),annotations:=none,code:=(.ref 155),closureTuple:=.none,builtins:=0 }),⟨[]⟩⟩
noncomputable def o157v119 (P:Params):Obj:=⟨(.type "tuple"),none,(.seq ⟨[]⟩ 0),⟨[]⟩⟩
noncomputable def o158v120 (P:Params):Obj:=⟨.none,none,(.fields ⟨[]⟩),⟨[]⟩⟩
noncomputable def o159v121 (P:Params):Obj:=⟨(.type "tuple"),none,(.seq ⟨[(.str (k [116,114,101,101]) 2565),(.str (k [97,116]) 2566),(.str (k [111,110,101]) 2567),(.str (k [102,105,114,115,116]) 2568),(.str (k [116,119,111]) 2569),(.str (k [115,101,99,111,110,100]) 2570)]⟩ 0),⟨[]⟩⟩
noncomputable def o160v122 (P:Params):Obj:=⟨(.type "tuple"),none,(.seq ⟨[]⟩ 0),⟨[]⟩⟩
noncomputable def o161v123 (P:Params):Obj:=⟨.none,none,(.func { name:=(k [95,108,97,119,95,116,114,105,97,110,103,108,101,115]),qualname:=(k [95,108,97,119,95,116,114,105,97,110,103,108,101,115]),params:=fnP 70,body:=fnB 70,scope:=fnS 70,globals:=0,closure:=[],defaults:=.none,kwdefaults:=.none,doc:=.none,pyModule:=.none,annotations:=none,code:=.none,closureTuple:=.none,builtins:=0 }),⟨[]⟩⟩
noncomputable def o162v124 (P:Params):Obj:=⟨(.type "code"),none,(.fields ⟨[(.str (k [95,108,97,119,95,116,114,105,97,110,103,108,101,115]) 2562),(.str (k [95,108,97,119,95,116,114,105,97,110,103,108,101,115]) 2563),(.str (k [47,99,108,97,105,109,47,99,117,116,46,112,121]) 2564),(.int (230) 0),(.int (2) 0),(.int (0) 0),(.int (0) 0),(.int (3) 0),(.ref 157),(.bool true),(.int (181) 0),(.ref 158),.none,(.ref 159),(.ref 160),(.ref 161),(.int (2571) 0),(.int (230) 0),(.str (k [47,99,108,97,105,109,47,99,117,116,46,112,121]) 2572)]⟩),⟨[]⟩⟩
noncomputable def o163v125 (P:Params):Obj:=⟨(.type "function"),none,(.func { name:=(k [95,108,97,119,95,116,114,105,97,110,103,108,101,115]),qualname:=(k [95,108,97,119,95,116,114,105,97,110,103,108,101,115]),params:=fnP 70,body:=fnB 70,scope:=fnS 70,globals:=3,closure:=[],defaults:=.none,kwdefaults:=.none,doc:=.none,pyModule:=(.str (k [108,97,119,95,119,102,48,49,48,49,95,48,49]) 2513),annotations:=none,code:=(.ref 162),closureTuple:=.none,builtins:=0 }),⟨[]⟩⟩
noncomputable def o164v126 (P:Params):Obj:=⟨(.type "tuple"),none,(.seq ⟨[]⟩ 0),⟨[]⟩⟩
noncomputable def o165v127 (P:Params):Obj:=⟨.none,none,(.fields ⟨[]⟩),⟨[]⟩⟩
noncomputable def o166v128 (P:Params):Obj:=⟨(.type "tuple"),none,(.seq ⟨[(.str (k [111,110,101]) 2577),(.str (k [116,119,111]) 2578)]⟩ 0),⟨[]⟩⟩
noncomputable def o167v129 (P:Params):Obj:=⟨(.type "tuple"),none,(.seq ⟨[]⟩ 0),⟨[]⟩⟩
noncomputable def o168v130 (P:Params):Obj:=⟨.none,none,(.func { name:=(k [95,108,97,119,95,109,105,120]),qualname:=(k [95,108,97,119,95,109,105,120]),params:=fnP 71,body:=fnB 71,scope:=fnS 71,globals:=0,closure:=[],defaults:=.none,kwdefaults:=.none,doc:=.none,pyModule:=.none,annotations:=none,code:=.none,closureTuple:=.none,builtins:=0 }),⟨[]⟩⟩
noncomputable def o169v131 (P:Params):Obj:=⟨(.type "code"),none,(.fields ⟨[(.str (k [95,108,97,119,95,109,105,120]) 2574),(.str (k [95,108,97,119,95,109,105,120]) 2575),(.str (k [47,99,108,97,105,109,47,99,117,116,46,112,121]) 2576),(.int (236) 0),(.int (2) 0),(.int (0) 0),(.int (0) 0),(.int (3) 0),(.ref 164),(.bool true),(.int (181) 0),(.ref 165),.none,(.ref 166),(.ref 167),(.ref 168),(.int (2579) 0),(.int (236) 0),(.str (k [47,99,108,97,105,109,47,99,117,116,46,112,121]) 2580)]⟩),⟨[]⟩⟩
noncomputable def o170v132 (P:Params):Obj:=⟨(.type "function"),none,(.func { name:=(k [95,108,97,119,95,109,105,120]),qualname:=(k [95,108,97,119,95,109,105,120]),params:=fnP 71,body:=fnB 71,scope:=fnS 71,globals:=3,closure:=[],defaults:=.none,kwdefaults:=.none,doc:=.none,pyModule:=(.str (k [108,97,119,95,119,102,48,49,48,49,95,48,49]) 2513),annotations:=none,code:=(.ref 169),closureTuple:=.none,builtins:=0 }),⟨[]⟩⟩
noncomputable def o171v133 (P:Params):Obj:=⟨(.type "tuple"),none,(.seq ⟨[]⟩ 0),⟨[]⟩⟩
noncomputable def o172v134 (P:Params):Obj:=⟨.none,none,(.fields ⟨[]⟩),⟨[]⟩⟩
noncomputable def o173v135 (P:Params):Obj:=⟨(.type "tuple"),none,(.seq ⟨[(.str (k [116,104,114,101,101,115]) 2585),(.str (k [108,105,103,104,116,115]) 2586),(.str (k [108,101,102,116]) 2587),(.str (k [116,111,112]) 2588),(.str (k [114,105,103,104,116]) 2589),(.str (k [109,105,120]) 2590),(.str (k [115,105,120,116,104]) 2591)]⟩ 0),⟨[]⟩⟩
noncomputable def o174v136 (P:Params):Obj:=⟨(.type "tuple"),none,(.seq ⟨[]⟩ 0),⟨[]⟩⟩
noncomputable def o175v137 (P:Params):Obj:=⟨.none,none,(.func { name:=(k [95,108,97,119,95,112,97,105,110,116,101,100]),qualname:=(k [95,108,97,119,95,112,97,105,110,116,101,100]),params:=fnP 72,body:=fnB 72,scope:=fnS 72,globals:=0,closure:=[],defaults:=.none,kwdefaults:=.none,doc:=.none,pyModule:=.none,annotations:=none,code:=.none,closureTuple:=.none,builtins:=0 }),⟨[]⟩⟩
noncomputable def o176v138 (P:Params):Obj:=⟨(.type "code"),none,(.fields ⟨[(.str (k [95,108,97,119,95,112,97,105,110,116,101,100]) 2582),(.str (k [95,108,97,119,95,112,97,105,110,116,101,100]) 2583),(.str (k [47,99,108,97,105,109,47,99,117,116,46,112,121]) 2584),(.int (238) 0),(.int (2) 0),(.int (0) 0),(.int (0) 0),(.int (3) 0),(.ref 171),(.bool true),(.int (181) 0),(.ref 172),.none,(.ref 173),(.ref 174),(.ref 175),(.int (2592) 0),(.int (238) 0),(.str (k [47,99,108,97,105,109,47,99,117,116,46,112,121]) 2593)]⟩),⟨[]⟩⟩
noncomputable def o177v139 (P:Params):Obj:=⟨(.type "function"),none,(.func { name:=(k [95,108,97,119,95,112,97,105,110,116,101,100]),qualname:=(k [95,108,97,119,95,112,97,105,110,116,101,100]),params:=fnP 72,body:=fnB 72,scope:=fnS 72,globals:=3,closure:=[],defaults:=.none,kwdefaults:=.none,doc:=.none,pyModule:=(.str (k [108,97,119,95,119,102,48,49,48,49,95,48,49]) 2513),annotations:=none,code:=(.ref 176),closureTuple:=.none,builtins:=0 }),⟨[]⟩⟩
noncomputable def o178v140 (P:Params):Obj:=⟨(.type "tuple"),none,(.seq ⟨[]⟩ 0),⟨[]⟩⟩
noncomputable def o179v141 (P:Params):Obj:=⟨.none,none,(.fields ⟨[]⟩),⟨[]⟩⟩
noncomputable def o180v142 (P:Params):Obj:=⟨.none,none,(.func { name:=(k [95,108,97,119,95,119,97,121,115]),qualname:=(k [95,108,97,119,95,119,97,121,115]),params:=fnP 73,body:=fnB 73,scope:=fnS 73,globals:=0,closure:=[],defaults:=.none,kwdefaults:=.none,doc:=.none,pyModule:=.none,annotations:=none,code:=.none,closureTuple:=.none,builtins:=0 }),⟨[]⟩⟩
noncomputable def o181v143 (P:Params):Obj:=⟨(.type "code"),none,(.fields ⟨[(.str (k [95,108,97,119,95,119,97,121,115]) 2595),(.str (k [95,108,97,119,95,119,97,121,115]) 2596),(.str (k [47,99,108,97,105,109,47,99,117,116,46,112,121]) 2597),(.int (244) 0),(.int (3) 0),(.int (0) 0),(.int (0) 0),(.int (3) 0),(.ref 178),(.bool true),(.int (181) 0),(.ref 179),.none,.none,.none,(.ref 180),(.int (2598) 0),(.int (244) 0),(.str (k [47,99,108,97,105,109,47,99,117,116,46,112,121]) 2599)]⟩),⟨[]⟩⟩
noncomputable def o182v144 (P:Params):Obj:=⟨(.type "function"),none,(.func { name:=(k [95,108,97,119,95,119,97,121,115]),qualname:=(k [95,108,97,119,95,119,97,121,115]),params:=fnP 73,body:=fnB 73,scope:=fnS 73,globals:=3,closure:=[],defaults:=.none,kwdefaults:=.none,doc:=.none,pyModule:=(.str (k [108,97,119,95,119,102,48,49,48,49,95,48,49]) 2513),annotations:=none,code:=(.ref 181),closureTuple:=.none,builtins:=0 }),⟨[]⟩⟩
noncomputable def o183v145 (P:Params):Obj:=⟨(.type "tuple"),none,(.seq ⟨[]⟩ 0),⟨[]⟩⟩
noncomputable def o184v146 (P:Params):Obj:=⟨.none,none,(.fields ⟨[]⟩),⟨[]⟩⟩
noncomputable def o185v147 (P:Params):Obj:=⟨.none,none,(.func { name:=(k [108,97,119]),qualname:=(k [108,97,119]),params:=fnP 74,body:=fnB 74,scope:=fnS 74,globals:=0,closure:=[],defaults:=.none,kwdefaults:=.none,doc:=.none,pyModule:=.none,annotations:=none,code:=.none,closureTuple:=.none,builtins:=0 }),⟨[]⟩⟩
noncomputable def o186v148 (P:Params):Obj:=⟨(.type "code"),none,(.fields ⟨[(.str (k [108,97,119]) 2601),(.str (k [108,97,119]) 2602),(.str (k [47,99,108,97,105,109,47,99,117,116,46,112,121]) 2603),(.int (257) 0),(.int (1) 0),(.int (0) 0),(.int (0) 0),(.int (3) 0),(.ref 183),(.bool true),(.int (181) 0),(.ref 184),.none,.none,.none,(.ref 185),(.int (2604) 0),(.int (257) 0),(.str (k [47,99,108,97,105,109,47,99,117,116,46,112,121]) 2605)]⟩),⟨[]⟩⟩
noncomputable def o187v149 (P:Params):Obj:=⟨(.type "function"),none,(.func { name:=(k [108,97,119]),qualname:=(k [108,97,119]),params:=fnP 74,body:=fnB 74,scope:=fnS 74,globals:=3,closure:=[],defaults:=.none,kwdefaults:=.none,doc:=.none,pyModule:=(.str (k [108,97,119,95,119,102,48,49,48,49,95,48,49]) 2513),annotations:=none,code:=(.ref 186),closureTuple:=.none,builtins:=0 }),⟨[]⟩⟩
noncomputable def TS8 (P:Params):BT:=(.node (boot_o_0 P) (.node (boot_o_1 P) (.node (o3v84 P) (.node (boot_o_7 P) (.node (o15v6 P) (.node (o31v22 P) (.node (o63v55 P) (.node (o127v89 P) .nil .nil) .nil) (.node (b3o 20 P) (.node (o159v121 P) .nil .nil) .nil)) (.node (o47v38 P) (.node (b3o 4 P) (.node (o143v105 P) .nil .nil) .nil) (.node (b3o 36 P) (.node (o175v137 P) .nil .nil) .nil))) (.node (o23v14 P) (.node (o39v30 P) (.node (o71v65 P) (.node (o135v97 P) .nil .nil) .nil) (.node (b3o 28 P) (.node (o167v129 P) .nil .nil) .nil)) (.node (o55v46 P) (.node (b3o 12 P) (.node (o151v113 P) .nil .nil) .nil) (.node (o119v77 P) (.node (o183v145 P) .nil .nil) .nil)))) (.node (o11v0 P) (.node (o19v10 P) (.node (o35v26 P) (.node (o67v59 P) (.node (o131v93 P) .nil .nil) .nil) (.node (b3o 24 P) (.node (o163v125 P) .nil .nil) .nil)) (.node (o51v42 P) (.node (b3o 8 P) (.node (o147v109 P) .nil .nil) .nil) (.node (o115v73 P) (.node (o179v141 P) .nil .nil) .nil))) (.node (o27v18 P) (.node (o43v34 P) (.node (b3o 0 P) (.node (o139v101 P) .nil .nil) .nil) (.node (b3o 32 P) (.node (o171v133 P) .nil .nil) .nil)) (.node (o59v51 P) (.node (b3o 16 P) (.node (o155v117 P) .nil .nil) .nil) (.node (o123v83 P) (.node (o187v149 P) .nil .nil) .nil))))) (.node (boot_o_5 P) (.node (boot_o_9 P) (.node (o17v8 P) (.node (o33v24 P) (.node (o65v57 P) (.node (o129v91 P) .nil .nil) .nil) (.node (b3o 22 P) (.node (o161v123 P) .nil .nil) .nil)) (.node (o49v40 P) (.node (b3o 6 P) (.node (o145v107 P) .nil .nil) .nil) (.node (b3o 38 P) (.node (o177v139 P) .nil .nil) .nil))) (.node (o25v16 P) (.node (o41v32 P) (.node (o73v67 P) (.node (o137v99 P) .nil .nil) .nil) (.node (b3o 30 P) (.node (o169v131 P) .nil .nil) .nil)) (.node (o57v49 P) (.node (b3o 14 P) (.node (o153v115 P) .nil .nil) .nil) (.node (o121v81 P) (.node (o185v147 P) .nil .nil) .nil)))) (.node (o13v2 P) (.node (o21v12 P) (.node (o37v28 P) (.node (o69v63 P) (.node (o133v95 P) .nil .nil) .nil) (.node (b3o 26 P) (.node (o165v127 P) .nil .nil) .nil)) (.node (o53v44 P) (.node (b3o 10 P) (.node (o149v111 P) .nil .nil) .nil) (.node (o117v75 P) (.node (o181v143 P) .nil .nil) .nil))) (.node (o29v20 P) (.node (o45v36 P) (.node (b3o 2 P) (.node (o141v103 P) .nil .nil) .nil) (.node (b3o 34 P) (.node (o173v135 P) .nil .nil) .nil)) (.node (o61v53 P) (.node (b3o 18 P) (.node (o157v119 P) .nil .nil) .nil) (.node (o125v87 P) .nil .nil)))))) (.node (boot_o_2 P) (.node (boot_o_4 P) (.node (boot_o_8 P) (.node (o16v7 P) (.node (o32v23 P) (.node (o64v56 P) (.node (o128v90 P) .nil .nil) .nil) (.node (b3o 21 P) (.node (o160v122 P) .nil .nil) .nil)) (.node (o48v39 P) (.node (b3o 5 P) (.node (o144v106 P) .nil .nil) .nil) (.node (b3o 37 P) (.node (o176v138 P) .nil .nil) .nil))) (.node (o24v15 P) (.node (o40v31 P) (.node (o72v66 P) (.node (o136v98 P) .nil .nil) .nil) (.node (b3o 29 P) (.node (o168v130 P) .nil .nil) .nil)) (.node (o56v47 P) (.node (b3o 13 P) (.node (o152v114 P) .nil .nil) .nil) (.node (o120v78 P) (.node (o184v146 P) .nil .nil) .nil)))) (.node (o12v85 P) (.node (o20v11 P) (.node (o36v27 P) (.node (o68v62 P) (.node (o132v94 P) .nil .nil) .nil) (.node (b3o 25 P) (.node (o164v126 P) .nil .nil) .nil)) (.node (o52v43 P) (.node (b3o 9 P) (.node (o148v110 P) .nil .nil) .nil) (.node (o116v74 P) (.node (o180v142 P) .nil .nil) .nil))) (.node (o28v19 P) (.node (o44v35 P) (.node (b3o 1 P) (.node (o140v102 P) .nil .nil) .nil) (.node (b3o 33 P) (.node (o172v134 P) .nil .nil) .nil)) (.node (o60v52 P) (.node (b3o 17 P) (.node (o156v118 P) .nil .nil) .nil) (.node (o124v86 P) .nil .nil))))) (.node (boot_o_6 P) (.node (boot_o_10 P) (.node (o18v9 P) (.node (o34v25 P) (.node (o66v58 P) (.node (o130v92 P) .nil .nil) .nil) (.node (b3o 23 P) (.node (o162v124 P) .nil .nil) .nil)) (.node (o50v41 P) (.node (b3o 7 P) (.node (o146v108 P) .nil .nil) .nil) (.node (o114v72 P) (.node (o178v140 P) .nil .nil) .nil))) (.node (o26v17 P) (.node (o42v33 P) (.node (o74v68 P) (.node (o138v100 P) .nil .nil) .nil) (.node (b3o 31 P) (.node (o170v132 P) .nil .nil) .nil)) (.node (o58v50 P) (.node (b3o 15 P) (.node (o154v116 P) .nil .nil) .nil) (.node (o122v82 P) (.node (o186v148 P) .nil .nil) .nil)))) (.node (o14v3 P) (.node (o22v13 P) (.node (o38v29 P) (.node (o70v64 P) (.node (o134v96 P) .nil .nil) .nil) (.node (b3o 27 P) (.node (o166v128 P) .nil .nil) .nil)) (.node (o54v45 P) (.node (b3o 11 P) (.node (o150v112 P) .nil .nil) .nil) (.node (o118v76 P) (.node (o182v144 P) .nil .nil) .nil))) (.node (o30v21 P) (.node (o46v37 P) (.node (b3o 3 P) (.node (o142v104 P) .nil .nil) .nil) (.node (b3o 35 P) (.node (o174v136 P) .nil .nil) .nil)) (.node (o62v54 P) (.node (b3o 19 P) (.node (o158v120 P) .nil .nil) .nil) (.node (o126v88 P) .nil .nil)))))))
noncomputable def S8 (w:World) (os:OsState):SharedT:=⟨TS8 w.params,188,{},⟨[]⟩,{},2607,os⟩
noncomputable def posS8:Pos:=⟨257,0,289,15⟩
noncomputable abbrev pieceS1 (w:World):Prop:=(fun os => segRunT treeTable pw w 11 (some (.ref 6)) 1 243 (S0 w os) (piecesOf (seg 0 9) env cd posS0 [topFrame q0])) = fun os => some (Flow.next,S1 w os,cd,posS1)
noncomputable abbrev pieceS2 (w:World):Prop:=(fun os => segRunT treeTable pw w 11 (some (.ref 6)) 1 999 (S1 w os) (piecesOf (seg 9 1) env cd posS1 [topFrame q0])) = fun os => some (Flow.next,S2 w os,cd,posS2)
noncomputable abbrev pieceS3 (w:World):Prop:=(fun os => segRunT treeTable pw w 11 (some (.ref 6)) 1 30 (S2 w os) (piecesOf (seg 10 1) env cd posS2 [topFrame q0])) = fun os => some (Flow.next,S3 w os,cd,posS3)
noncomputable abbrev pieceS4 (w:World):Prop:=(fun os => segRunT treeTable pw w 11 (some (.ref 6)) 1 12525 (S3 w os) (piecesOf (seg 11 1) env cd posS3 [topFrame q0])) = fun os => some (Flow.next,S4 w os,cd,posS4)
noncomputable abbrev pieceS5 (w:World):Prop:=(fun os => segRunT treeTable pw w 11 (some (.ref 6)) 1 274 (S4 w os) (piecesOf (seg 12 28) env cd posS4 [topFrame q0])) = fun os => some (Flow.next,S5 w os,cd,posS5)
noncomputable abbrev pieceS6 (w:World):Prop:=(fun os => segRunT treeTable pw w 11 (some (.ref 6)) 1 208 (S5 w os) (piecesOf (seg 40 23) env cd posS5 [topFrame q0])) = fun os => some (Flow.next,S6 w os,cd,posS6)
noncomputable abbrev pieceS7 (w:World):Prop:=(fun os => segRunT treeTable pw w 11 (some (.ref 6)) 1 979 (S6 w os) (piecesOf (seg 63 1) env cd posS6 [topFrame q0])) = fun os => some (Flow.next,S7 w os,cd,posS7)
noncomputable abbrev pieceS8 (w:World):Prop:=(fun os => segRunT treeTable pw w 11 (some (.ref 6)) 1 330 (S7 w os) (piecesOf (seg 64 11) env cd posS7 [topFrame q0])) = fun os => some (Flow.next,S8 w os,cd,posS8)
noncomputable def TS3b (P:Params):BT:=(.node (boot_o_0 P) (.node (boot_o_1 P) (.node (o3v60 P) (.node (boot_o_7 P) (.node (o15v6 P) (.node (o31v22 P) (.node (o63v55 P) .nil .nil) (.node (b3o 20 P) .nil .nil)) (.node (o47v38 P) (.node (b3o 4 P) .nil .nil) (.node (b3o 36 P) .nil .nil))) (.node (o23v14 P) (.node (o39v30 P) (.node (o71v65 P) .nil .nil) (.node (b3o 28 P) .nil .nil)) (.node (o55v46 P) (.node (b3o 12 P) .nil .nil) .nil))) (.node (o11v0 P) (.node (o19v10 P) (.node (o35v26 P) (.node (o67v59 P) .nil .nil) (.node (b3o 24 P) .nil .nil)) (.node (o51v42 P) (.node (b3o 8 P) .nil .nil) .nil)) (.node (o27v18 P) (.node (o43v34 P) (.node (b3o 0 P) .nil .nil) (.node (b3o 32 P) .nil .nil)) (.node (o59v51 P) (.node (b3o 16 P) .nil .nil) .nil)))) (.node (boot_o_5 P) (.node (boot_o_9 P) (.node (o17v8 P) (.node (o33v24 P) (.node (o65v57 P) .nil .nil) (.node (b3o 22 P) .nil .nil)) (.node (o49v40 P) (.node (b3o 6 P) .nil .nil) (.node (b3o 38 P) .nil .nil))) (.node (o25v16 P) (.node (o41v32 P) (.node (o73v67 P) .nil .nil) (.node (b3o 30 P) .nil .nil)) (.node (o57v49 P) (.node (b3o 14 P) .nil .nil) .nil))) (.node (o13v2 P) (.node (o21v12 P) (.node (o37v28 P) (.node (o69v63 P) .nil .nil) (.node (b3o 26 P) .nil .nil)) (.node (o53v44 P) (.node (b3o 10 P) .nil .nil) .nil)) (.node (o29v20 P) (.node (o45v36 P) (.node (b3o 2 P) .nil .nil) (.node (b3o 34 P) .nil .nil)) (.node (o61v53 P) (.node (b3o 18 P) .nil .nil) .nil))))) (.node (boot_o_2 P) (.node (boot_o_4 P) (.node (boot_o_8 P) (.node (o16v7 P) (.node (o32v23 P) (.node (o64v56 P) .nil .nil) (.node (b3o 21 P) .nil .nil)) (.node (o48v39 P) (.node (b3o 5 P) .nil .nil) (.node (b3o 37 P) .nil .nil))) (.node (o24v15 P) (.node (o40v31 P) (.node (o72v66 P) .nil .nil) (.node (b3o 29 P) .nil .nil)) (.node (o56v47 P) (.node (b3o 13 P) .nil .nil) .nil))) (.node (o12v61 P) (.node (o20v11 P) (.node (o36v27 P) (.node (o68v62 P) .nil .nil) (.node (b3o 25 P) .nil .nil)) (.node (o52v43 P) (.node (b3o 9 P) .nil .nil) .nil)) (.node (o28v19 P) (.node (o44v35 P) (.node (b3o 1 P) .nil .nil) (.node (b3o 33 P) .nil .nil)) (.node (o60v52 P) (.node (b3o 17 P) .nil .nil) .nil)))) (.node (boot_o_6 P) (.node (boot_o_10 P) (.node (o18v9 P) (.node (o34v25 P) (.node (o66v58 P) .nil .nil) (.node (b3o 23 P) .nil .nil)) (.node (o50v41 P) (.node (b3o 7 P) .nil .nil) .nil)) (.node (o26v17 P) (.node (o42v33 P) (.node (o74v68 P) .nil .nil) (.node (b3o 31 P) .nil .nil)) (.node (o58v50 P) (.node (b3o 15 P) .nil .nil) .nil))) (.node (o14v3 P) (.node (o22v13 P) (.node (o38v29 P) (.node (o70v64 P) .nil .nil) (.node (b3o 27 P) .nil .nil)) (.node (o54v45 P) (.node (b3o 11 P) .nil .nil) .nil)) (.node (o30v21 P) (.node (o46v37 P) (.node (b3o 3 P) .nil .nil) (.node (b3o 35 P) .nil .nil)) (.node (o62v54 P) (.node (b3o 19 P) .nil .nil) .nil))))))
noncomputable def S3b (w:World) (os:OsState):SharedT:=⟨TS3b w.params,114,{},⟨[]⟩,{},2293,os⟩
noncomputable def dp11:Pos:=match st 11 with | .Assign _ (.Dict _ _ p) _ => p | _ => default
noncomputable def incr (lo:Int):List Pair → Bool
 | [] => true
 | q :: r => decide (lo < q.1) && decide (q.1 < 2 ^ 60) && incr q.1 r
theorem incr_ok:∀ (r:List Pair) (lo:Int), incr lo r = true → ∀ q ∈ r, lo < q.1 ∧ q.1 < 2 ^ 60
 | [], _, _, _, h => nomatch h
 | a :: r, lo, h, q, hq => by
  have h:(decide (lo < a.1) && decide (a.1 < 2 ^ 60) && incr a.1 r) = true:=h
  simp only [Bool.and_eq_true, decide_eq_true_eq] at h
  rcases List.mem_cons.mp hq with rfl | hq
  ·exact h.1
  ·have:=incr_ok r a.1 h.2 q hq
   exact ⟨by lia, this.2⟩
theorem incr_nodup:∀ (r:List Pair) (lo:Int), incr lo r = true → (r.map (·.1)).Nodup
 | [], _, _ => List.nodup_nil
 | a :: r, lo, h => by
  have h:(decide (lo < a.1) && decide (a.1 < 2 ^ 60) && incr a.1 r) = true:=h
  simp only [Bool.and_eq_true, decide_eq_true_eq] at h
  rw [List.map_cons, List.nodup_cons]
  refine ⟨fun hm => ?_, incr_nodup r a.1 h.2⟩
  obtain ⟨q, hq, e⟩:=List.mem_map.mp hm
  have:=(incr_ok r a.1 h.2 q hq).1
  lia
theorem b3_split:b3all = b3c ++ (b3cs.flatten ++ b3l):=by kernel_rfl
theorem b3_len:b3all.length = 650:=by kernel_rfl
theorem b3_17:(b3c :: b3cs).all (·.length == 17) = true:=by kernel_rfl
theorem b3l_len:b3l.length = 4:=by kernel_rfl
theorem b3_incr:incr (-1) b3all = true:=by kernel_rfl
theorem b3_keys:KeysOk b3all:=⟨incr_nodup _ _ b3_incr, fun q hq => by have:=incr_ok _ _ b3_incr q hq;lia⟩
theorem b3_heap (P:Params):(TS3b P).list 114 = (TS3 P).list 75 ++ b3objs:=by kernel_rfl
theorem b3_items:(match st 11 with | .Assign _ (.Dict ks vs p) _ => (evalEachOpt ks env).zip ((evalEach vs env).map fun v => do let x ← v;standAt p;pure x) | _ => []) = b3all.map (itm dp11):=by kernel_rfl
theorem seg11:seg 11 1 = [st 11]:=by kernel_rfl
noncomputable def st11n:Expr:=match st 11 with | .Assign (t :: _) _ _ => t | _ => default
noncomputable def st11k:List (Option Expr):=match st 11 with | .Assign _ (.Dict ks _ _) _ => ks | _ => []
noncomputable def st11v:List Expr:=match st 11 with | .Assign _ (.Dict _ vs _) _ => vs | _ => []
noncomputable def st11p:Pos:=match st 11 with | .Assign _ _ p => p | _ => default
theorem st11_is:st 11 = .Assign [st11n] (.Dict st11k st11v dp11) st11p:=by kernel_rfl
theorem st11_items:(evalEachOpt st11k env).zip ((evalEach st11v env).map fun v => do let x ← v;standAt dp11;pure x) = b3all.map (itm dp11):=by kernel_rfl
theorem rest11_0 (w:World) (os:OsState) (K:Flow → Sem Fin) (H:Value → Sem Fin) (lv:List Value → List Value) :
  segGoT treeTable pw w 11 (some (.ref 6)) 1 7 (S3b w os) ⟨(assignStores env (.ref 75) none (List.map (fun x => x.snd) (assignEach [st11n] env))).wrap K H id lv, cd, dp11, BB⟩ = some (S4 w os, ⟨K .next, cd, posS4, BB⟩):=by kernel_rfl
theorem rest11 (w:World) (os:OsState) {Q:Flow → Shared → Pos → Nat → Prop} {b:Nat} (h:Q .next (S4 w os).abs posS4 b):G w (assignStores env (.ref 75) none (List.map (fun x => x.snd) (assignEach [st11n] env))) Q (S3b w os).abs dp11 (b + 7):=fun K H lv =>
 ⟨7, .next, (S4 w os).abs, posS4, b, Nat.le_of_eq (Nat.add_comm _ _), segGo_of (rest11_0 w os K H lv), h⟩
theorem st3_abs (w:World) (os:OsState):(S3 w os).abs = Sh ⟨[]⟩ {} os ((TS3 w.params).list 75) 343:=rfl
theorem st3_len (P:Params):((TS3 P).list 75).length = 75:=by delta BT.list;simp
theorem st3b_abs (w:World) (os:OsState):Sh ⟨[]⟩ {} os ((TS3 w.params).list 75 ++ dO (outE 343 (b3c :: (b3cs ++ [b3l]))) :: outS (343 + 3 * b3c.length) (b3cs ++ [b3l])) (343 + 3 * (b3c ++ (b3cs.flatten ++ b3l)).length) = (S3b w os).abs:=by
 have e:(S3b w os).abs = Sh ⟨[]⟩ {} os ((TS3b w.params).list 114) 2293:=rfl
 rw [e, b3_heap, ← b3_split, b3_len]
 have:b3c.length = 17:=by have:=List.all_eq_true.mp b3_17 b3c (.head _);simpa using this
 rw [this]
 rfl
theorem run11 (w:World) (os:OsState):G w (execs (seg 11 1) env) (fun a s' p' _ => a = .next ∧ s' = (S4 w os).abs ∧ p' = posS4) (S3 w os).abs posS3 20000:=by
 rw [seg11, st11_is]
 rw [arm_execs_cons]
 rw [arm_exec_Assign]
 refine G_bind (G_bind (G_at ?_))
 refine G_bind ?_
 show G w (pure false) _ _ _ _
 refine G_pure ?_
 rw [if_neg Bool.false_ne_true]
 refine G_bind ?_
 rw [arm_eval_Dict]
 refine G_bind (G_at ?_)
 rw [st11_items, b3_split, st3_abs]
 have h17:∀ x ∈ b3c :: b3cs, x.length = 17:=fun x hx => by have:=List.all_eq_true.mp b3_17 x hx;simpa using this
 refine G_le (b:=(3098 - 7 + 7) + 26 * (b3c ++ (b3cs.flatten ++ b3l)).length) ?_ (by rw [← b3_split, b3_len];decide)
 refine G_display dp11 _ (by rw [st3_len];decide) b3c b3cs b3l h17 (by intro e;have:=b3l_len;rw [e] at this;cases this) (by rw [b3l_len];decide) (by rw [← b3_split];exact b3_keys) (by rw [← b3_split, b3_len];decide) _ 343 dp11 ?_
 rw [st3b_abs, st3_len]
 refine G_bind ?_
 show G w (pure none) _ _ _ _
 refine G_pure ?_
 exact rest11 w os (G_pure ⟨rfl, rfl, rfl⟩)
theorem pieceS4_of (w:World) (os:OsState):∃ n, n ≤ 20000 ∧ segRun treeTable pw w 11 (some (.ref 6)) 1 (n + 1) (S3 w os).abs (piecesOf (seg 11 1) env cd posS3 [topFrame q0]) = some (Flow.next, (S4 w os).abs, cd, posS4):=by
 obtain ⟨n, a, s', p', b', hn, e, rfl, rfl, rfl⟩:=run11 w os doneF deadEnd id
 refine ⟨n, by lia, ?_⟩
 refine seg_go e ?_
 rfl
theorem p1:∀ w, pieceS1 w:=fun w => by unfold pieceS1;kernel_rfl
theorem p2ff (w:World):pieceS2 ((w.withFollow "special-get-raises" false).withFollow "set-order" false):=by unfold pieceS2;rw [PySem.W.Fast.te10110043849684766642, PySem.W.Fast.te14364793385576792824];kernel_rfl
theorem p2ft (w:World):pieceS2 ((w.withFollow "special-get-raises" true).withFollow "set-order" false):=by unfold pieceS2;rw [PySem.W.Fast.te10110043849684766642, PySem.W.Fast.te14364793385576792824];kernel_rfl
theorem p2tf (w:World):pieceS2 ((w.withFollow "special-get-raises" false).withFollow "set-order" true):=by unfold pieceS2;rw [PySem.W.Fast.te10110043849684766642, PySem.W.Fast.te14364793385576792824];kernel_rfl
theorem p2tt (w:World):pieceS2 ((w.withFollow "special-get-raises" true).withFollow "set-order" true):=by unfold pieceS2;rw [PySem.W.Fast.te10110043849684766642, PySem.W.Fast.te14364793385576792824];kernel_rfl
theorem p2:∀ w, pieceS2 w:=byRow2 "set-order" (byRow2 (P:=fun w => pieceS2 (w.withFollow "set-order" false)) "special-get-raises" p2ff p2ft) (byRow2 (P:=fun w => pieceS2 (w.withFollow "set-order" true)) "special-get-raises" p2tf p2tt)
theorem p3:∀ w, pieceS3 w:=fun w => by unfold pieceS3;kernel_rfl
theorem p5:∀ w, pieceS5 w:=fun w => by unfold pieceS5;kernel_rfl
theorem p6:∀ w, pieceS6 w:=fun w => by unfold pieceS6;kernel_rfl
theorem p7f (w:World):pieceS7 (w.withFollow "special-get-raises" false):=by unfold pieceS7;rw [PySem.W.Fast.te10110043849684766642, PySem.W.Fast.te14364793385576792824];kernel_rfl
theorem p7t (w:World):pieceS7 (w.withFollow "special-get-raises" true):=by unfold pieceS7;rw [PySem.W.Fast.te10110043849684766642, PySem.W.Fast.te14364793385576792824];kernel_rfl
theorem p7:∀ w, pieceS7 w:=byRow2 "special-get-raises" p7f p7t
theorem p8:∀ w, pieceS8 w:=fun w => by unfold pieceS8;kernel_rfl
theorem body_split:behindTheImports pw = seg 0 9 ++ (seg 9 1 ++ (seg 10 1 ++ (seg 11 1 ++ (seg 12 28 ++ (seg 40 23 ++ (seg 63 1 ++ (seg 64 11 ++ []))))))):=by kernel_rfl
theorem pre_run (w:World) (os:OsState):topGo treeTable pw w 11 (some (.ref 6)) 12 ⟨boot_heap w.params, ⟨[]⟩, boot_drawn, boot_toks, os⟩ (topStub pw) = some ((S0 w os).abs, ⟨denote treeTable cd, cd, ⟨0, 0, 0, 0⟩, [topFrame q0]⟩):=by kernel_rfl
theorem block_run (w:World) (os:OsState):segRun treeTable pw w 11 (some (.ref 6)) 1 1 (S0 w os).abs (blockOf (behindTheImports pw) env cd ⟨0, 0, 0, 0⟩ [topFrame q0]) = some (Flow.next, (S0 w os).abs, cd, posS0):=by kernel_rfl
theorem fin_run (w:World) (os:OsState):topRun treeTable pw w 11 (some (.ref 6)) 2 (S8 w os).abs ⟨doneF .next, cd, posS8, [topFrame q0]⟩ = some (S8 w os).abs:=by kernel_rfl
theorem pc (n:Nat) {w:World} {s s':OsState → SharedT} {l:List Stmt} {p p':Pos} (h:(fun os => segRunT treeTable pw w 11 (some (.ref 6)) 1 n (s os) (piecesOf l env cd p [topFrame q0])) = fun os => some (Flow.next, s' os, cd, p')) (os:OsState) :
  segRun treeTable pw w 11 (some (.ref 6)) 1 n (s os).abs (piecesOf l env cd p [topFrame q0]) = some (Flow.next, (s' os).abs, cd, p'):=segRun_of (congrFun h os)
theorem top_run (w:World) (os:OsState):topRun treeTable pw w 11 (some (.ref 6)) 24000 ⟨boot_heap w.params, ⟨[]⟩, boot_drawn, boot_toks, os⟩ (topStub pw) = some (S8 w os).abs:=by
 obtain ⟨n, hn, h4⟩:=pieceS4_of w os
 have k8:=piece_app (pc _ (p8 w) os) (piece_nil (env:=env) (fin_run w os))
 have k7:=piece_app (pc _ (p7 w) os) k8
 have k6:=piece_app (pc _ (p6 w) os) k7
 have k5:=piece_app (pc _ (p5 w) os) k6
 have k4:=piece_app h4 k5
 have k3:=piece_app (pc _ (p3 w) os) k4
 have k2:=piece_app (pc _ (p2 w) os) k3
 have k1:=piece_app (pc _ (p1 w) os) k2
 rw [← body_split] at k1
 have kb:=piece_block (block_run w os) k1
 have kp:=go_top (pre_run w os) kb
 have:=topRun_mono (24000 - (12 + (1 + (243 + (999 + (30 + (n + 1 + (274 + (208 + (979 + (330 + 2))))))))))) _ _ _ _ kp
 rw [show 12 + (1 + (243 + (999 + (30 + (n + 1 + (274 + (208 + (979 + (330 + 2))))))))) + (24000 - (12 + (1 + (243 + (999 + (30 + (n + 1 + (274 + (208 + (979 + (330 + 2))))))))))) = 24000 by lia] at this
 exact this
noncomputable def H0 (P:Params):Heap:=boot_heap P
noncomputable def H1 (P:Params):Heap:=absHeap (TS8 P) 188 {}
noncomputable def qv:Program:={ pw with main:={ pw.main with body:=pw.main.body.filter fun s => match s with | .FunctionDef .. => true | _ => false } }
noncomputable def looseV:List PySem.Str:=(pw.main.body.filterMap fun s => match s with | .Assign [.Name n _] _ _ => if n == PySem.Str.ofString "__name__" then none else some n | _ => none)
noncomputable def KF (P:Params):Frag:=(List.range 188).map fun i => (i, ((TS8 P).get i).getD default)
theorem KF_as (P:Params):List.range 188 = (KF P).map (·.1):=by simp [KF, List.map_map, Function.comp_def]
noncomputable def HK:Hook:=kHook KF (List.range 188) KF_as
noncomputable def xtV (s:Shared):Bool:=xlAt qv [] s && recOk [] s
theorem open_boot:∀ w:World, (fencedOpening treeTable pw w 31286).map (fun s => (s.heap, s.gens, s.drawn, s.toks)) = some (H0 w.params, ⟨[]⟩, boot_drawn, boot_toks) :=
 boot_open (p:=pw) (N:=31286) (by kernel_rfl) (by decide +kernel) (fun _ => rfl)
theorem size_ok:∀ w:World, ((H0 w.params).isNs mainGlobals && (⟨[]⟩:Array GenState).size == 0, (H0 w.params).objs.size, (H0 w.params).nsMap mainGlobals "__annotations__") = (true, 11, some (.ref 6)):=fun w => by kernel_rfl
theorem looks_a (w:World) (os:OsState):(staticsOk (importedModules pw.main.body) (H0 w.params) (H1 w.params) && namesBound pw (H1 w.params) && gensDone ⟨H1 w.params, ⟨[]⟩, {}, 2607, os⟩ && laidKept (H0 w.params) (H1 w.params)) = true:=by kernel_rfl
theorem looks_c (w:World):(List.range 188).map (Heap.get? (H1 w.params)) = (KF w.params).map fun p => some p.2:=by kernel_rfl
theorem looks_b (w:World) (os:OsState):openSeen qv looseV (importedModules pw.main.body) xtV true ⟨H1 w.params, ⟨[]⟩, {}, 2607, os⟩ = openGood qv looseV:=by kernel_rfl
theorem left:LeftO pw qv looseV xtV HK.obs HK.val 31286 :=
 LeftO.of_pieces (H₀:=H0) (H₁:=H1) (gs₁:=⟨[]⟩) (d₁:={}) (k₁:=2607) (M:=24000) open_boot size_ok (fun w os => top_run w os) (by decide +kernel)
  (fun w => funext fun os => by rw [looks_a, looks_b];exact congrArg (fun x => (true, openGood qv looseV, x)) (looks_c w))
abbrev rw0:OpenLaw:=PySem.Challenge.rw_wf0101_01
noncomputable abbrev XPV:(PySem.Str → Option Value) → Heap → Prop:=XL qv []
noncomputable abbrev CallGoal:Prop:=WalkO qv looseV XPV HK.says rw0.row.toRowW ⟨PySem.Str.ofString "law", fnP 74, (match fnB 74 with | .stmts b => b | _ => []), fnS 74, (match st 74 with | .FunctionDef (pos:=p) .. => p | _ => default)⟩ [] fun f vs => PySem.call f vs
theorem row_holds (said:rw0.row.wellSaid = true) (call:CallGoal):rw0.row.Holds :=
 holds_open (q:=qv) (loose:=looseV) (Xt:=xtV) (XP:=XPV) (YP:=HK.says) left HK.of HK.keeps (fun s e => xl_of s (Bool.and_eq_true_iff.mp e).1) XL.keeps (by kernel_rfl) (by kernel_rfl) (by kernel_rfl)
  (fun s e => recFacts_of (Bool.and_eq_true_iff.mp e).2) (by kernel_rfl) said (by decide +kernel) ⟨rfl, rfl, rfl, rfl, rfl, by decide +kernel⟩ (by w_witness2) call
end
end Mine
set_option maxHeartbeats 0
set_option exponentiation.threshold 2000
noncomputable section
namespace Mine
set_option genSizeOf false
inductive Gl | b1 | b3 | tok
 deriving DecidableEq
set_option genCtorIdx false in
inductive PV
 | none | bool (b:Bool) | int (i:Int) | flt (u:UInt64) | str (s:List Nat)
 | tup (l:List PV) | list (l:List PV) | dict (l:List (Int × PV)) | gl (g:Gl)
noncomputable def PV.ctorIdx (x:PV):Nat:=PV.casesOn x 0 (fun _ => 1) (fun _ => 2) (fun _ => 3) (fun _ => 4) (fun _ => 5) (fun _ => 6) (fun _ => 7) (fun _ => 8)
set_option genCtorIdx false in
inductive Slot
 | val (v:PV) | ownL (l:List PV) | ownD (l:List (Int × PV))
noncomputable def Slot.ctorIdx (x:Slot):Nat:=Slot.casesOn x (fun _ => 0) (fun _ => 1) (fun _ => 2)
inductive Bop | add | sub | mul | fdiv | mod | pow | div
 deriving DecidableEq
inductive Cop | eq | ne | lt | le | gt | ge | is | isNot | isIn | notIn
 deriving DecidableEq
inductive Bi | len | chr | ord | int | sum | max3 | min3 | isStr | join | lower | get1
 deriving DecidableEq
set_option genCtorIdx false in
set_option genInjectivity false in
mutual
inductive E
 | none | bool (b:Bool) | int (i:Int) | flt (u:UInt64) | str (s:List Nat)
 | var (i:Nat) | nt | gl (g:Gl)
 | bin (op:Bop) (a b:E) | cmp (op:Cop) (a b:E) | notv (a:E) | ife (t:T) (a b:E)
 | idx (a i:E) | idxv (x:Nat) (i:E) | slc (a:E) (lo hi:Option E)
 | tup (l:List E) | lst (l:List E)
 | call (f:Nat) (l:List E) (d:Option (List (E × E)))
 | bi (f:Bi) (l:List E)
 | getv (x:Nat) (a b:E) | sumv (x:Nat)
 | comp (elt:E) (v:Nat) (it:It) (cond:List T)
inductive T
 | not (t:T) | and (l:List T) | or (l:List T) | cmp (op:Cop) (a b:E) | val (e:E) | neF (a:E) (t:Option T) (l r:List UInt64)
inductive It
 | val (e:E) | range (a:E) | range2 (a b:E) | gen (a:E)
end
noncomputable def E.ctorIdx (x:E):Nat:=E.casesOn x 0 (fun _ => 1) (fun _ => 2) (fun _ => 3) (fun _ => 4) (fun _ => 5) 6 (fun _ => 7) (fun _ _ _ => 8) (fun _ _ _ => 9) (fun _ => 10) (fun _ _ _ => 11) (fun _ _ => 12) (fun _ _ => 13) (fun _ _ _ => 14) (fun _ => 15) (fun _ => 16) (fun _ _ _ => 17) (fun _ _ => 18) (fun _ _ _ => 19) (fun _ => 20) (fun _ _ _ _ => 21)
noncomputable def T.ctorIdx (x:T):Nat:=T.casesOn x (fun _ => 0) (fun _ => 1) (fun _ => 2) (fun _ _ _ => 3) (fun _ => 4) (fun _ _ _ _ => 5)
noncomputable def It.ctorIdx (x:It):Nat:=It.casesOn x (fun _ => 0) (fun _ => 1) (fun _ _ => 2) (fun _ => 3)
set_option genCtorIdx false in
set_option genInjectivity false in
inductive S
 | asg (x:Nat) (e:E) | asgL (x:Nat) (l:List E) | asgD (x:Nat) (l:List (E × E))
 | unp (xs:List Nat) (e:E) | aug (x:Nat) (op:Bop) (e:E)
 | app (x:Nat) (e:E) | set (x:Nat) (a e:E)
 | ifs (t:T) (a b:List S) | for1 (x:Nat) (it:It) (b:List S) | forn (xs:List Nat) (it:It) (b:List S)
 | wh (t:T) (b:List S) | ret (e:E)
noncomputable def S.ctorIdx (x:S):Nat:=S.casesOn x (fun _ _ => 0) (fun _ _ => 1) (fun _ _ => 2) (fun _ _ => 3) (fun _ _ _ => 4) (fun _ _ => 5) (fun _ _ _ => 6) (fun _ _ _ => 7) (fun _ _ _ => 8) (fun _ _ _ => 9) (fun _ _ => 10) (fun _ => 11)
noncomputable abbrev Ev:=List (Option Slot)
noncomputable def small (i:Int):Bool:=decide (-1099511627776 < i) && decide (i < 1099511627776)
noncomputable def lim (n:Nat):Bool:=Nat.blt n 100000
noncomputable def fOf (i:Int):Option UInt64:=if decide (0 ≤ i) && decide (i < 16) then some (Float64.ofInt i) else none
noncomputable def isz (u:UInt64):Bool:=Float64.isZero u
noncomputable def binop (op:Bop) (x y:PV):Option PV:=match op with
 | .add => match x, y with
  | .int a, .int b => if small a && small b then some (.int (a + b)) else none
  | .flt a, .flt b => some (.flt (Float64.add a b))
  | .str a, .str b => if lim (a.length + b.length) then some (.str (a ++ b)) else none
  | .list a, .list b => if lim (a.length + b.length) then some (.list (a ++ b)) else none
  | _, _ => none
 | .sub => match x, y with
  | .int a, .int b => if small a && small b then some (.int (a - b)) else none
  | .flt a, .flt b => some (.flt (Float64.sub a b))
  | .flt a, .int b => do some (.flt (Float64.sub a (← fOf b)))
  | _, _ => none
 | .mul => match x, y with
  | .int a, .int b => if small a && small b then some (.int (a * b)) else none
  | .flt a, .flt b => some (.flt (Float64.mul a b))
  | .flt a, .int b => do some (.flt (Float64.mul a (← fOf b)))
  | _, _ => none
 | .fdiv => match x, y with
  | .int a, .int b => if small a && small b && decide (0 < b) then some (.int (a.fdiv b)) else none
  | _, _ => none
 | .mod => match x, y with
  | .int a, .int b => if decide (0 < b) then some (.int (a.fmod b)) else none
  | .flt a, .flt b => if isz b then none else some (.flt ((Float64.divmod a b).2))
  | _, _ => none
 | .pow => match x, y with
  | .int a, .int b => if decide (0 ≤ a) && decide (a ≤ 16) && decide (0 ≤ b) && decide (b ≤ 16) then some (.int (a ^ b.toNat)) else none
  | _, _ => none
 | .div => match x, y with
  | .int a, .int b => if small a && small b && decide (0 < b) then some (.flt (Float64.ofFrac (decide (a < 0) != decide (b < 0)) a.natAbs b.natAbs)) else none
  | .flt a, .flt b => if isz b then none else some (.flt (Float64.div a b))
  | .flt a, .int b => do
   let y ← fOf b
   if isz y then none else some (.flt (Float64.div a y))
  | _, _ => none
noncomputable def fcmp (a b:UInt64):Option Ordering:=Float64.cmp a b
mutual
noncomputable def pvEq:Nat → PV → PV → Option Bool
 | _, .int a, .int b => some (decide (a = b))
 | _, .str a, .str b => some (decide (a = b))
 | n + 1, .tup a, .tup b => pvEqs n a b
 | _, _, _ => none
noncomputable def pvEqs:Nat → List PV → List PV → Option Bool
 | _, [], [] => some true
 | n, a :: l, b :: r => match pvEq n a b, pvEqs n l r with
  | some x, some y => some (x && y)
  | _, _ => none
 | _, _, _ => none
end
noncomputable def fltsEq:List PV → List UInt64 → Option Bool
 | [], [] => some true
 | .flt a :: l, b :: r => match fltsEq l r with
  | some y => some (fcmp a b == some .eq && y)
  | none => none
 | _, _ => none
noncomputable def lookI (k:Int):List (Int × PV) → Option PV
 | [] => none
 | (j, v) :: r => if decide (j = k) then some v else lookI k r
noncomputable def putI (k:Int) (v:PV):List (Int × PV) → List (Int × PV)
 | [] => [(k, v)]
 | (j, u) :: r => if decide (j = k) then (j, v) :: r else (j, u) :: putI k v r
noncomputable def b1L:List Int:=[173, 847, 6150, 6155, 6156, 6157, 8203, 8204, 8205, 8288, 65279, 65024, 65025, 65026, 65027, 65028, 65029, 65030, 65031, 65032, 65033, 65034, 65035, 65036, 65037, 65038, 65039]
noncomputable def tokL:List (List Nat × Int):=[([33], 54), ([33, 61], 28), ([37], 24), ([37, 61], 40), ([38], 19), ([38, 61], 41), ([40], 7), ([41], 8), ([42], 16), ([42, 42], 35), ([42, 42, 61], 46), ([42, 61], 38), ([43], 14), ([43, 61], 36), ([44], 12),
 ([45], 15), ([45, 61], 37), ([45, 62], 51), ([46], 23), ([46, 46, 46], 52), ([47], 17), ([47, 47], 47), ([47, 47, 61], 48), ([47, 61], 39), ([58], 11), ([58, 61], 53), ([59], 13), ([60], 20), ([60, 60], 33), ([60, 60, 61], 44), ([60, 61], 29),
 ([61], 22), ([61, 61], 27), ([62], 21), ([62, 61], 30), ([62, 62], 34), ([62, 62, 61], 45), ([64], 49), ([64, 61], 50), ([91], 9), ([93], 10), ([94], 32), ([94, 61], 43), ([123], 25), ([124], 18), ([124, 61], 42), ([125], 26), ([126], 31)]
noncomputable def lookS (x:List Nat):List (List Nat × Int) → Option Int
 | [] => none
 | (y, i) :: r => if decide (y = x) then some i else lookS x r
noncomputable def b3L:List (Int × List Nat):=b3all.map fun q => (q.1, q.2.cps.toList)
noncomputable def lookB (k:Int):List (Int × List Nat) → Option (List Nat)
 | [] => none
 | (j, v) :: r => if decide (j = k) then some v else lookB k r
noncomputable def intsOf:List PV → Option (List Int)
 | [] => some []
 | .int j :: r => (intsOf r).map (j :: ·)
 | _ => none
noncomputable def cmpop (op:Cop) (x y:PV):Option Bool:=match op with
 | .eq => match x, y with
  | .int a, .int b => some (decide (a = b))
  | .flt a, .flt b => some (fcmp a b == some .eq)
  | .str a, .str b => some (decide (a = b))
  | .list a, .list b => if b.isEmpty then some a.isEmpty else none
  | _, _ => none
 | .ne => match x, y with
  | .int a, .int b => some (!decide (a = b))
  | .tup a, .tup b => (pvEqs 100 a b).map (!·)
  | _, _ => none
 | .lt => match x, y with
  | .int a, .int b => some (decide (a < b))
  | _, _ => none
 | .le => match x, y with
  | .int a, .int b => some (decide (a ≤ b))
  | .flt a, .flt b => some (fcmp a b == some .lt || fcmp a b == some .eq)
  | _, _ => none
 | .gt => match x, y with
  | .int a, .int b => some (decide (b < a))
  | _, _ => none
 | .ge => match x, y with
  | .int a, .int b => some (decide (b ≤ a))
  | _, _ => none
 | .is => match x, y with
  | .bool a, .bool b => some (a == b)
  | .none, .none => some true
  | .int _, .none => some false
  | _, _ => none
 | .isNot => match x, y with
  | .bool a, .bool b => some (a != b)
  | .none, .none => some false
  | .str _, .none => some true
  | _, _ => none
 | .isIn => match x, y with
  | .int a, .gl g => if decide (g = .b1) then some (b1L.contains a) else none
  | .str a, .gl g => if decide (g = .tok) then some (lookS a tokL).isSome else none
  | .int a, .tup l => (intsOf l).map fun ns => ns.any (· == a)
  | _, _ => none
 | .notIn => match x, y with
  | .str a, .gl g => if decide (g = .tok) then some (!(lookS a tokL).isSome) else none
  | .str l, .str r => match l with
   | [c] => some (!r.contains c)
   | _ => none
  | _, _ => none
noncomputable def nth (l:List PV) (i:Int):Option PV:=if decide (0 ≤ i) && small i then l[i.toNat]? else none
noncomputable def idxop (x y:PV):Option PV:=match x with
 | .list l => match y with
  | .int i => nth l i
  | _ => none
 | .tup l => match y with
  | .int i => nth l i
  | _ => none
 | .dict l => match y with
  | .int i => lookI i l
  | _ => none
 | .gl g => match y with
  | .str x => if decide (g = .tok) then (lookS x tokL).map .int else none
  | _ => none
 | _ => none
noncomputable def bnd:PV → Option Nat
 | .int i => if decide (0 ≤ i) && small i then some i.toNat else none
 | _ => none
noncomputable def cut {α:Type} (l:List α) (a b:Nat):List α:=(l.take b).drop a
noncomputable def slLo:Option PV → Option Nat
 | some x => bnd x
 | none => some 0
noncomputable def slcop (v:PV) (lo hi:Option PV):Option PV:=(slLo lo).bind fun a => match v with
 | .str l => if lim l.length then match hi with
  | some x => do some (.str (cut l a (← bnd x)))
  | none => some (.str (l.drop a)) else none
 | .list l => if lim l.length then match hi with
  | some x => do some (.list (cut l a (← bnd x)))
  | none => some (.list (l.drop a)) else none
 | .tup l => if lim l.length && Nat.ble 1 a && Nat.ble a l.length then match hi with
  | some _ => none
  | none => some (.tup (l.drop a)) else none
 | _ => none
noncomputable def sumI:List PV → Int → Option Int
 | [], a => some a
 | .int i :: r, a => if small i && small a then sumI r (a + i) else none
 | _, _ => none
noncomputable def joinS:List PV → Option (List Nat)
 | [] => some []
 | .str x :: r => (joinS r).map (x ++ ·)
 | _ => none
noncomputable def lowC (c:Nat):Nat:=if Nat.ble 65 c && Nat.ble c 90 then c + 32 else c
noncomputable def truncI (u:UInt64):Option Int:=match Float64.decode u with
 | .fin neg m e => some (Float64.truncOf neg m e)
 | _ => none
noncomputable def fmax (a b:UInt64):UInt64:=if fcmp b a == some .gt then b else a
noncomputable def fmin (a b:UInt64):UInt64:=if fcmp b a == some .lt then b else a
noncomputable def biop (f:Bi) (l:List PV):Option PV:=match l with
 | [] => none
 | x :: r => match f with
  | .len => if !r.isEmpty then none else match x with
   | .str l => if lim l.length then some (.int l.length) else none
   | .list l => if lim l.length then some (.int l.length) else none
   | _ => none
  | .chr => if !r.isEmpty then none else match x with
   | .int i => if decide (0 ≤ i) && decide (i < 1114112) then some (.str [i.toNat]) else none
   | _ => none
  | .ord => if !r.isEmpty then none else match x with
   | .str l => match l with
    | [c] => some (.int c)
    | _ => none
   | _ => none
  | .int => if !r.isEmpty then none else match x with
   | .flt u => do
    let i ← truncI u
    if small i then some (.int i) else none
   | _ => none
  | .sum => if !r.isEmpty then none else match x with
   | .list l => (sumI l 0).map .int
   | _ => none
  | .max3 => match x, r with
   | .flt a, [.flt b, .flt c] => some (.flt (fmax (fmax a b) c))
   | _, _ => none
  | .min3 => match x, r with
   | .flt a, [.flt b, .flt c] => some (.flt (fmin (fmin a b) c))
   | _, _ => none
  | .isStr => if !r.isEmpty then none else match x with
   | .str _ => some (.bool true)
   | .tup _ => some (.bool false)
   | _ => none
  | .join => if !r.isEmpty then none else match x with
   | .list l => do
    let x ← joinS l
    if lim l.length && lim x.length then some (.str x) else none
   | _ => none
  | .lower => if !r.isEmpty then none else match x with
   | .str l => match l with
    | [c] => if Nat.blt c 128 then some (.str [lowC c]) else none
    | _ => none
   | _ => none
  | .get1 => if !r.isEmpty then none else match x with
   | .int i => some (match lookB i b3L with | some x => .str x | none => .none)
   | _ => none
noncomputable def esc (pos:Int) (esca:Bool):List Nat → List PV
 | [] => if esca then [.tup [.int (pos - 1), .str [92]]] else []
 | c :: r => if esca then .tup [.int pos, .str [92, c]] :: esc (pos + 1) false r
  else if decide (c = 92) then esc (pos + 1) true r else .tup [.int pos, .str [c]] :: esc (pos + 1) false r
noncomputable def rangeI (a:Int):Nat → List PV
 | 0 => []
 | n + 1 => .int a :: rangeI (a + 1) n
noncomputable def itsOf:PV → Option (List PV)
 | .list l => some l
 | .tup l => some l
 | .str s => some (s.map fun c => .str [c])
 | .dict l => some (l.map fun q => .int q.1)
 | _ => none
noncomputable def froz:Slot → PV
 | .val v => v
 | .ownL l => .list l
 | .ownD l => .dict l
noncomputable def getS (e:Ev) (i:Nat):Option Slot:=(e[i]?).join
noncomputable def setS (e:Ev) (i:Nat) (s:Slot):Ev:=e.set i (some s)
noncomputable abbrev Calls:=Nat → List Slot → Option PV
noncomputable def vals (e:Ev):Ev:=e.map fun s => match s with | some (.val v) => some (.val v) | _ => none
noncomputable def compL (f:PV → Option (Option PV)):List PV → Option (List PV)
 | [] => some []
 | x :: r => do
  let y ← f x
  let ys ← compL f r
  match y with
  | some y => some (y :: ys)
  | none => some ys
mutual
noncomputable def evE (C:Calls):Nat → Ev → E → Option (PV × Ev)
 | 0, _, _ => none
 | n + 1, e, x => match x with
  | .none => some (.none, e)
  | .bool b => some (.bool b, e)
  | .int i => some (.int i, e)
  | .flt u => some (.flt u, e)
  | .str s => some (.str s, e)
  | .nt => some (.int 256, e)
  | .gl g => some (.gl g, e)
  | .var i => match getS e i with
   | some (.val v) => some (v, e)
   | some s => some (froz s, setS e i (.val (froz s)))
   | none => none
  | .bin op a b => do
   let (x, e) ← evE C n e a
   let (y, e) ← evE C n e b
   some (← binop op x y, e)
  | .cmp op a b => do
   let (x, e) ← evE C n e a
   let (y, e) ← evE C n e b
   some (.bool (← cmpop op x y), e)
  | .notv a => do
   let (x, e) ← evE C n e a
   match x with
   | .bool b => some (.bool (!b), e)
   | _ => none
  | .ife t a b => do
   let (c, e) ← evT C n e t
   if c then evE C n e a else evE C n e b
  | .idx a i => do
   let (x, e) ← evE C n e a
   let (y, e) ← evE C n e i
   some (← idxop x y, e)
  | .idxv x i => do
   let s ← getS e x
   let (y, e) ← evE C n e i
   some (← idxop (froz s) y, e)
  | .slc a lo hi => do
   let (x, e) ← evE C n e a
   let (l, e) ← evO C n e lo
   let (h, e) ← evO C n e hi
   some (← slcop x l h, e)
  | .tup l => do
   let (vs, e) ← evL C n e l
   some (.tup vs, e)
  | .lst l => do
   let (vs, e) ← evL C n e l
   some (.list vs, e)
  | .call f l d => do
   let (vs, e) ← evL C n e l
   match d with
   | none => some (← C f (vs.map .val), e)
   | some d => do
    let (ps, e) ← evD C n e d
    some (← C f (vs.map .val ++ [.ownD ps]), e)
  | .bi f l => do
   let (vs, e) ← evL C n e l
   some (← biop f vs, e)
  | .getv x a b => do
   let s ← getS e x
   let (k, e) ← evE C n e a
   let (d, e) ← evE C n e b
   match froz s, k with
   | .dict l, .int i => some ((lookI i l).getD d, e)
   | _, _ => none
  | .sumv x => do
   let s ← getS e x
   match froz s with
   | .dict l => some (.int (← sumI (l.map (·.2)) 0), e)
   | _ => none
  | .comp elt v it cond => if Nat.blt v e.length then do
   let (its, e) ← evI C n e it
   let r ← compL (fun x => do
    let (ok, e) ← evTs C n (setS (vals e) v (.val x)) true cond
    if ok then do
     let (y, _) ← evE C n e elt
     some (some y)
    else some none) its
   if lim r.length && lim its.length then some (.list r, e) else none
   else none
noncomputable def evL (C:Calls):Nat → Ev → List E → Option (List PV × Ev)
 | 0, _, _ => none
 | _ + 1, e, [] => some ([], e)
 | n + 1, e, x :: r => do
  let (v, e) ← evE C n e x
  let (vs, e) ← evL C n e r
  some (v :: vs, e)
noncomputable def evD (C:Calls):Nat → Ev → List (E × E) → Option (List (Int × PV) × Ev)
 | 0, _, _ => none
 | _ + 1, e, [] => some ([], e)
 | n + 1, e, (a, b) :: r => do
  let (k, e) ← evE C n e a
  let (v, e) ← evE C n e b
  let (vs, e) ← evD C n e r
  match k with
  | .int i => if (vs.map (·.1)).contains i then none else some ((i, v) :: vs, e)
  | _ => none
noncomputable def evO (C:Calls):Nat → Ev → Option E → Option (Option PV × Ev)
 | 0, _, _ => none
 | _ + 1, e, none => some (none, e)
 | n + 1, e, some x => do
  let (v, e) ← evE C n e x
  some (some v, e)
noncomputable def evT (C:Calls):Nat → Ev → T → Option (Bool × Ev)
 | 0, _, _ => none
 | n + 1, e, t => match t with
  | .not t => do
   let (b, e) ← evT C n e t
   some (!b, e)
  | .and l => evTs C n e true l
  | .or l => evTs C n e false l
  | .cmp op a b => do
   let (x, e) ← evE C n e a
   let (y, e) ← evE C n e b
   some (← cmpop op x y, e)
  | .val x => do
   let (v, e) ← evE C n e x
   match v with
   | .bool b => some (b, e)
   | _ => none
  | .neF a t l r => do
   let (x, e) ← evE C n e a
   let (c, e) ← match t with
    | none => some (true, e)
    | some t => evT C n e t
   match x with
   | .tup vs => do
    let b ← fltsEq vs (if c then l else r)
    some (!b, e)
   | _ => none
noncomputable def evTs (C:Calls):Nat → Ev → Bool → List T → Option (Bool × Ev)
 | 0, _, _, _ => none
 | _ + 1, e, u, [] => some (u, e)
 | n + 1, e, u, t :: r => do
  let (b, e) ← evT C n e t
  if b == u then evTs C n e u r else some (b, e)
noncomputable def evI (C:Calls):Nat → Ev → It → Option (List PV × Ev)
 | 0, _, _ => none
 | n + 1, e, x => match x with
  | .val a => do
   let (v, e) ← evE C n e a
   some (← itsOf v, e)
  | .range a => do
   let (v, e) ← evE C n e a
   match v with
   | .int i => if small i then some (rangeI 0 i.toNat, e) else none
   | _ => none
  | .range2 a b => do
   let (v, e) ← evE C n e a
   let (u, e) ← evE C n e b
   match v, u with
   | .int i, .int j => if small i && small j then some (rangeI i (j - i).toNat, e) else none
   | _, _ => none
  | .gen a => do
   let (v, e) ← evE C n e a
   match v with
   | .str s => if lim s.length then some (esc 0 false s, e) else none
   | _ => none
end
set_option genCtorIdx false in
inductive Fl
 | next | ret (v:PV)
noncomputable def Fl.ctorIdx (x:Fl):Nat:=Fl.casesOn x 0 (fun _ => 1)
noncomputable def loopF (f:PV → Ev → Option (Fl × Ev)):List PV → Ev → Option (Fl × Ev)
 | [], e => some (.next, e)
 | x :: r, e => match f x e with
  | some (.next, e) => loopF f r e
  | y => y
noncomputable def setMany (e:Ev):List Nat → List PV → Option Ev
 | [], [] => some e
 | x :: xs, v :: vs => setMany (setS e x (.val v)) xs vs
 | _, _ => none
noncomputable def unpV:PV → Option (List PV)
 | .tup l => some l
 | _ => none
mutual
noncomputable def exS (C:Calls):Nat → Ev → S → Option (Fl × Ev)
 | 0, _, _ => none
 | n + 1, e, s => match s with
  | .asg x a => do
   let (v, e) ← evE C n e a
   some (.next, setS e x (.val v))
  | .asgL x l => do
   let (vs, e) ← evL C n e l
   some (.next, setS e x (.ownL vs))
  | .asgD x l => do
   let (vs, e) ← evD C n e l
   some (.next, setS e x (.ownD vs))
  | .unp xs a => do
   let (v, e) ← evE C n e a
   some (.next, ← setMany e xs (← unpV v))
  | .aug x op a => do
   let s ← getS e x
   let (v, e) ← evE C n e a
   match s, v with
   | .val (.int i), .int j => some (.next, setS e x (.val (← binop op (.int i) (.int j))))
   | _, _ => none
  | .app x a => do
   let (v, e) ← evE C n e a
   match ← getS e x with
   | .ownL l => if lim l.length then some (.next, setS e x (.ownL (l ++ [v]))) else none
   | _ => none
  | .set x a b => do
   let (v, e) ← evE C n e b
   let (k, e) ← evE C n e a
   match ← getS e x, k with
   | .ownD l, .int i => if lim l.length then some (.next, setS e x (.ownD (putI i v l))) else none
   | _, _ => none
  | .ifs t a b => do
   let (c, e) ← evT C n e t
   if c then exB C n e a else exB C n e b
  | .for1 x it b => do
   let (its, e) ← evI C n e it
   loopF (fun v e => exB C n (setS e x (.val v)) b) its e
  | .forn xs it b => do
   let (its, e) ← evI C n e it
   loopF (fun v e => do exB C n (← setMany e xs (← unpV v)) b) its e
  | .wh t b => exW C n e t b 8
  | .ret a => do
   let (v, e) ← evE C n e a
   some (.ret v, e)
noncomputable def exB (C:Calls):Nat → Ev → List S → Option (Fl × Ev)
 | 0, _, _ => none
 | _ + 1, e, [] => some (.next, e)
 | n + 1, e, s :: r => match exS C n e s with
  | some (.next, e) => exB C n e r
  | y => y
noncomputable def exW (C:Calls):Nat → Ev → T → List S → Nat → Option (Fl × Ev)
 | 0, _, _, _, _ => none
 | n + 1, e, t, b, k => match evT C n e t with
  | some (true, e) => match exB C n e b with
   | some (.next, e) => exW C n e t b k
   | y => y
  | some (false, e) => some (.next, e)
  | none => none
end
structure Fn where
 np:Nat
 nl:Nat
 body:List S
noncomputable abbrev depthN:Nat:=60
noncomputable def callN (F:Nat → Fn):Nat → Calls
 | 0, _, _ => none
 | d + 1, f, args =>
  if args.length == (F f).np then
   match exB (callN F d) depthN (args.map some ++ List.replicate ((F f).nl - (F f).np) none) (F f).body with
   | some (.ret v, _) => some v
   | some (.next, _) => some .none
   | none => none
  else none
noncomputable def fn0:Fn:=⟨1,4,[]⟩
noncomputable def fn1:Fn:=⟨1,6,[(.ifs (.cmp .notIn (.str [34]) (.var 0)) [(.ret (.var 0))] []),(.asg 1 (.int (0))),(.asg 2 .none),(.asgL 3 []),(.forn [4,5] (.gen (.var 0)) [(.ifs (.cmp .eq (.var 5) (.str [34])) [(.ifs (.cmp .is (.var 2) .none) [(.asg 2 (.var 4))] [(.ifs (.cmp .ne (.var 1) (.var 2)) [(.app 3 (.slc (.var 0) (some (.var 1)) (some (.var 2))))] []),(.asg 1 (.bin .add (.var 4) (.int (1)))),(.asg 2 .none)])] [])]),(.ifs (.cmp .lt (.var 1) (.bi .len [(.var 0)])) [(.app 3 (.slc (.var 0) (some (.var 1)) none))] []),(.ret (.bi .join [(.var 3)]))]⟩
noncomputable def fn2:Fn:=⟨1,4,[(.asg 0 (.call 1 [(.var 0)] none)),(.asg 1 (.int (0))),(.forn [2,3] (.gen (.var 0)) [(.ifs (.cmp .eq (.var 3) (.str [40])) [(.aug 1 .add (.int (1)))] [(.ifs (.cmp .eq (.var 3) (.str [41])) [(.aug 1 .sub (.int (1))),(.ifs (.cmp .lt (.var 1) (.int (0))) [(.ret (.bool false))] [])] [])])]),(.ret (.cmp .eq (.var 1) (.int (0))))]⟩
noncomputable def fn3:Fn:=⟨3,13,[(.asg 3 (.bi .max3 [(.var 0),(.var 1),(.var 2)])),(.asg 4 (.bi .min3 [(.var 0),(.var 1),(.var 2)])),(.asg 5 (.bin .add (.var 3) (.var 4))),(.asg 6 (.bin .sub (.var 3) (.var 4))),(.asg 7 (.bin .div (.var 5) (.flt 4611686018427387904))),(.ifs (.cmp .eq (.var 4) (.var 3)) [(.ret (.tup [(.flt 0),(.var 7),(.flt 0)]))] []),(.ifs (.cmp .le (.var 7) (.flt 4602678819172646912)) [(.asg 8 (.bin .div (.var 6) (.var 5)))] [(.asg 8 (.bin .div (.var 6) (.bin .sub (.bin .sub (.flt 4611686018427387904) (.var 3)) (.var 4))))]),(.asg 9 (.bin .div (.bin .sub (.var 3) (.var 0)) (.var 6))),(.asg 10 (.bin .div (.bin .sub (.var 3) (.var 1)) (.var 6))),(.asg 11 (.bin .div (.bin .sub (.var 3) (.var 2)) (.var 6))),(.ifs (.cmp .eq (.var 0) (.var 3)) [(.asg 12 (.bin .sub (.var 11) (.var 10)))] [(.ifs (.cmp .eq (.var 1) (.var 3)) [(.asg 12 (.bin .sub (.bin .add (.flt 4611686018427387904) (.var 9)) (.var 11)))] [(.asg 12 (.bin .sub (.bin .add (.flt 4616189618054758400) (.var 10)) (.var 9)))])]),(.asg 12 (.bin .mod (.bin .div (.var 12) (.flt 4618441417868443648)) (.flt 4607182418800017408))),(.ret (.tup [(.var 12),(.var 7),(.var 8)]))]⟩
noncomputable def fn4:Fn:=⟨3,12,[(.asg 3 (.bi .max3 [(.var 0),(.var 1),(.var 2)])),(.asg 4 (.bi .min3 [(.var 0),(.var 1),(.var 2)])),(.asg 5 (.bin .sub (.var 3) (.var 4))),(.asg 6 (.var 3)),(.ifs (.cmp .eq (.var 4) (.var 3)) [(.ret (.tup [(.flt 0),(.flt 0),(.var 6)]))] []),(.asg 7 (.bin .div (.var 5) (.var 3))),(.asg 8 (.bin .div (.bin .sub (.var 3) (.var 0)) (.var 5))),(.asg 9 (.bin .div (.bin .sub (.var 3) (.var 1)) (.var 5))),(.asg 10 (.bin .div (.bin .sub (.var 3) (.var 2)) (.var 5))),(.ifs (.cmp .eq (.var 0) (.var 3)) [(.asg 11 (.bin .sub (.var 10) (.var 9)))] [(.ifs (.cmp .eq (.var 1) (.var 3)) [(.asg 11 (.bin .sub (.bin .add (.flt 4611686018427387904) (.var 8)) (.var 10)))] [(.asg 11 (.bin .sub (.bin .add (.flt 4616189618054758400) (.var 9)) (.var 8)))])]),(.asg 11 (.bin .mod (.bin .div (.var 11) (.flt 4618441417868443648)) (.flt 4607182418800017408))),(.ret (.tup [(.var 11),(.var 7),(.var 6)]))]⟩
noncomputable def fn5:Fn:=⟨3,8,[(.ifs (.cmp .eq (.var 1) (.flt 0)) [(.ret (.tup [(.var 2),(.var 2),(.var 2)]))] []),(.asg 3 (.bi .int [(.bin .mul (.var 0) (.flt 4618441417868443648))])),(.asg 4 (.bin .sub (.bin .mul (.var 0) (.flt 4618441417868443648)) (.var 3))),(.asg 5 (.bin .mul (.var 2) (.bin .sub (.flt 4607182418800017408) (.var 1)))),(.asg 6 (.bin .mul (.var 2) (.bin .sub (.flt 4607182418800017408) (.bin .mul (.var 1) (.var 4))))),(.asg 7 (.bin .mul (.var 2) (.bin .sub (.flt 4607182418800017408) (.bin .mul (.var 1) (.bin .sub (.flt 4607182418800017408) (.var 4)))))),(.asg 3 (.bin .mod (.var 3) (.int (6)))),(.ifs (.cmp .eq (.var 3) (.int (0))) [(.ret (.tup [(.var 2),(.var 7),(.var 5)]))] []),(.ifs (.cmp .eq (.var 3) (.int (1))) [(.ret (.tup [(.var 6),(.var 2),(.var 5)]))] []),(.ifs (.cmp .eq (.var 3) (.int (2))) [(.ret (.tup [(.var 5),(.var 2),(.var 7)]))] []),(.ifs (.cmp .eq (.var 3) (.int (3))) [(.ret (.tup [(.var 5),(.var 6),(.var 2)]))] []),(.ifs (.cmp .eq (.var 3) (.int (4))) [(.ret (.tup [(.var 7),(.var 5),(.var 2)]))] []),(.ifs (.cmp .eq (.var 3) (.int (5))) [(.ret (.tup [(.var 2),(.var 5),(.var 6)]))] [])]⟩
noncomputable def fn6:Fn:=⟨1,1,[(.ret (.cmp .isIn (.bi .ord [(.var 0)]) (.gl .b1)))]⟩
noncomputable def fn7:Fn:=⟨1,2,[(.asg 1 (.bi .get1 [(.bi .ord [(.var 0)])])),(.ifs (.cmp .isNot (.var 1) .none) [(.ret (.var 1))] []),(.ret (.bi .lower [(.var 0)]))]⟩
noncomputable def fn8:Fn:=⟨1,1,[(.ret (.cmp .lt (.var 0) .nt))]⟩
noncomputable def fn9:Fn:=⟨1,1,[(.ret (.cmp .ge (.var 0) .nt))]⟩
noncomputable def fn10:Fn:=⟨1,20,[(.asgL 1 [(.str [43]),(.str [45]),(.str [42,42]),(.str [62,62]),(.str [47,47]),(.str [60,60,61]),(.str [45,62]),(.str [46,46,46])]),(.asgL 2 [(.int (14)),(.int (15)),(.int (35)),(.int (34)),(.int (47)),(.int (44)),(.int (51)),(.int (52))]),(.asgL 3 [(.int (65)),(.int (122)),(.int (223)),(.int (383)),(.int (64257)),(.int (64259)),(.int (64262)),(.int (119808)),(.int (120763)),(.int (8470))]),(.asgL 4 [(.str [97]),(.str [122]),(.str [115,115]),(.str [115]),(.str [102,105]),(.str [102,102,105]),(.str [115,116]),(.str [97]),(.str [963]),(.str [110,111])]),(.asgL 5 [(.int (173)),(.int (847)),(.int (8203)),(.int (8288)),(.int (65024)),(.int (65279))]),(.asgL 6 []),(.for1 7 (.range (.bin .add (.bi .len [(.var 0)]) (.int (1)))) [(.asg 8 (.bin .mod (.bin .add (.bin .fdiv (.idxv 0 (.bin .mod (.var 7) (.bi .len [(.var 0)]))) (.int (2880))) (.var 7)) (.int (10)))),(.app 6 (.tup [(.idxv 4 (.var 8)),(.bi .chr [(.idxv 3 (.var 8))])]))]),(.for1 9 (.val (.var 0)) [(.asg 10 (.bin .mod (.var 9) (.bin .sub (.bi .len [(.var 6)]) (.int (1))))),(.unp [11,12] (.tup [(.idxv 6 (.var 10)),(.idxv 6 (.bin .add (.var 10) (.int (1))))])),(.asg 13 (.idxv 2 (.bin .mod (.bin .fdiv (.var 9) (.int (60))) (.int (8))))),(.asg 14 (.idxv 1 (.bin .mod (.bin .fdiv (.var 9) (.int (60))) (.int (8))))),(.asg 15 (.bi .chr [(.idxv 5 (.bin .mod (.bin .fdiv (.var 9) (.int (480))) (.int (6))))])),(.asgL 16 [(.str []),(.str [34,40,34]),(.str [34,92,34,41,34]),(.str [92,40]),(.bin .add (.bin .add (.str [92]) (.var 15)) (.str [41])),(.str [92,92])]),(.asg 17 (.idxv 16 (.bin .mod (.bin .fdiv (.var 9) (.int (480))) (.int (6))))),(.asg 18 (.bin .add (.bin .add (.bin .add (.bin .add (.bin .add (.bin .add (.bin .add (.var 17) (.str [40])) (.idxv 11 (.int (1)))) (.slc (.var 14) none (some (.int (1))))) (.var 15)) (.slc (.var 14) (some (.int (1))) none)) (.idxv 12 (.int (1)))) (.str [41]))),(.ifs (.cmp .eq (.bin .mod (.var 13) (.int (2))) (.int (0))) [(.asg 19 (.tup [(.var 13),(.idxv 11 (.int (0))),(.idxv 12 (.int (0)))]))] [(.asg 19 (.tup [(.var 13),(.idxv 12 (.int (0))),(.idxv 11 (.int (0)))]))]),(.asg 6 (.bin .add (.bin .add (.slc (.var 6) none (some (.var 10))) (.lst [(.tup [(.var 19),(.var 18)])])) (.slc (.var 6) (some (.bin .add (.var 10) (.int (2)))) none)))]),(.ret (.idxv 6 (.int (0))))]⟩
noncomputable def fn11:Fn:=⟨1,9,[(.asgL 1 []),(.asg 2 (.bool false)),(.asg 3 (.int (0))),(.forn [4,5] (.gen (.var 0)) [(.ifs (.cmp .eq (.var 5) (.str [34])) [(.asg 2 (.notv (.var 2)))] [(.ifs (.and [(.not (.val (.var 2))),(.cmp .eq (.bi .len [(.var 5)]) (.int (1))),(.cmp .ge (.var 4) (.var 3))]) [(.asg 6 (.int (3))),(.wh (.and [(.cmp .gt (.var 6) (.int (1))),(.cmp .notIn (.slc (.var 0) (some (.var 4)) (some (.bin .add (.var 4) (.var 6)))) (.gl .tok))]) [(.aug 6 .sub (.int (1)))]),(.asg 7 (.slc (.var 0) (some (.var 4)) (some (.bin .add (.var 4) (.var 6))))),(.ifs (.cmp .isIn (.var 7) (.gl .tok)) [(.asg 8 (.idx (.gl .tok) (.var 7)))] [(.asg 8 (.bin .add .nt (.bi .ord [(.var 7)])))]),(.asg 3 (.bin .add (.var 4) (.bi .len [(.var 7)]))),(.app 1 (.tup [(.var 8),(.var 4),(.var 3)]))] [])])]),(.ret (.var 1))]⟩
noncomputable def fn12:Fn:=⟨2,8,[(.asg 3 (.comp (.var 6) 6 (.range (.bi .len [(.var 1)])) [(.and [(.val (.call 8 [(.idx (.idxv 1 (.var 6)) (.int (0)))] none)),(.cmp .gt (.idx (.idxv 1 (.var 6)) (.int (0))) (.int (8)))])])),(.ifs (.cmp .eq (.var 3) (.lst [])) [(.ret (.bi .join [(.comp (.bi .chr [(.bin .sub (.idxv 7 (.int (0))) .nt)]) 7 (.val (.var 1)) [(.val (.call 9 [(.idxv 7 (.int (0)))] none))])]))] []),(.for1 2 (.val (.var 3)) [(.ifs (.val (.call 2 [(.slc (.var 0) (some (.idx (.idxv 1 (.int (0))) (.int (2)))) (some (.idx (.idxv 1 (.var 2)) (.int (1)))))] none)) [(.asg 4 (.call 12 [(.var 0),(.slc (.var 1) (some (.int (1))) (some (.var 2)))] none)),(.asg 5 (.call 12 [(.var 0),(.slc (.var 1) (some (.bin .add (.var 2) (.int (1)))) none)] none)),(.ifs (.cmp .eq (.bin .mod (.idx (.idxv 1 (.var 2)) (.int (0))) (.int (2))) (.int (0))) [(.ret (.tup [(.idx (.idxv 1 (.var 2)) (.int (0))),(.var 4),(.var 5)]))] []),(.ret (.tup [(.idx (.idxv 1 (.var 2)) (.int (0))),(.var 5),(.var 4)]))] [])]),(.ret (.tup []))]⟩
noncomputable def fn13:Fn:=⟨2,6,[(.ifs (.val (.bi .isStr [(.var 0)])) [(.ret (.tup [(.int (1)),(.lst [])]))] []),(.unp [2,3] (.call 13 [(.idxv 0 (.int (1))),(.var 1)] none)),(.unp [4,5] (.call 13 [(.idxv 0 (.int (2))),(.bin .add (.var 1) (.var 2))] none)),(.ret (.tup [(.bin .add (.var 2) (.var 4)),(.bin .add (.bin .add (.lst [(.tup [(.var 1),(.bin .add (.var 1) (.var 2)),(.bin .add (.bin .add (.var 1) (.var 2)) (.var 4))])]) (.var 3)) (.var 5))]))]⟩
noncomputable def fn14:Fn:=⟨2,2,[(.ret (.lst [(.bin .div (.bin .add (.idxv 0 (.int (0))) (.idxv 1 (.int (0)))) (.int (2))),(.bin .div (.bin .add (.idxv 0 (.int (1))) (.idxv 1 (.int (1)))) (.int (2))),(.bin .div (.bin .add (.idxv 0 (.int (2))) (.idxv 1 (.int (2)))) (.int (2)))]))]⟩
noncomputable def fn15:Fn:=⟨2,7,[(.forn [2,3,4] (.val (.var 0)) [(.asg 5 (.call 14 [(.idxv 1 (.var 2)),(.idxv 1 (.var 4))] none)),(.asg 6 (.bi .int [(.bin .add (.bin .mul (.idx (.call 4 [(.idxv 5 (.int (0))),(.idxv 5 (.int (1))),(.idxv 5 (.int (2)))] none) (.int (0))) (.int (6))) (.flt 4602678819172646912))])),(.set 1 (.var 3) (.call 5 [(.bin .div (.bin .mod (.bin .add (.var 6) (.int (3))) (.int (6))) (.int (6))),(.flt 4607182418800017408),(.flt 4607182418800017408)] none))]),(.ret (.var 1))]⟩
noncomputable def fn16:Fn:=⟨3,11,[(.asgD 3 [((.int (0)),(.int (1)))]),(.asgL 4 [(.int (1))]),(.for1 5 (.range2 (.bin .add (.var 1) (.int (1))) (.var 2)) [(.asg 6 (.comp (.bin .pow (.int (2)) (.var 10)) 10 (.range (.bi .len [(.var 0)])) [(.cmp .isIn (.var 5) (.idxv 0 (.var 10)))])),(.asgD 7 []),(.for1 8 (.val (.var 3)) [(.for1 9 (.val (.var 6)) [(.ifs (.cmp .eq (.bin .mod (.bin .fdiv (.var 8) (.var 9)) (.int (2))) (.int (0))) [(.set 7 (.bin .add (.var 8) (.var 9)) (.bin .add (.getv 7 (.bin .add (.var 8) (.var 9)) (.int (0))) (.idxv 3 (.var 8))))] [])])]),(.asg 3 (.var 7)),(.app 4 (.sumv 3))]),(.ret (.var 4))]⟩
noncomputable def fn17:Fn:=⟨1,31,[(.asgL 1 [(.int (15901)),(.int (3660)),(.int (13861)),(.int (14040))]),(.asg 2 (.ife (.cmp .lt (.bi .len [(.var 0)]) (.int (5))) (.int (4)) (.int (5)))),(.asg 3 (.comp (.bin .mod (.var 27) (.bin .pow (.int (10)) (.int (6)))) 27 (.val (.slc (.var 0) none (some (.var 2)))) [])),(.asg 3 (.bin .add (.var 3) (.slc (.var 1) (some (.bi .len [(.var 3)])) none))),(.unp [4,5] (.call 10 [(.var 3)] none)),(.asg 6 (.bi .join [(.comp (.call 7 [(.var 28)] none) 28 (.val (.var 5)) [(.not (.val (.call 6 [(.var 28)] none)))])])),(.asg 7 (.call 11 [(.var 6)] none)),(.asg 8 (.call 12 [(.var 6),(.var 7)] none)),(.ifs (.or [(.cmp .isNot (.call 2 [(.var 6)] none) (.bool true)),(.cmp .ne (.var 8) (.var 4))]) [(.ret (.bool false))] []),(.asg 9 (.comp (.var 29) 29 (.val (.var 7)) [(.and [(.val (.call 8 [(.idxv 29 (.int (0)))] none)),(.cmp .gt (.idxv 29 (.int (0))) (.int (8)))])])),(.for1 10 (.range (.bi .len [(.var 9)])) [(.for1 11 (.range (.var 10)) [(.ifs (.cmp .isNot (.call 2 [(.slc (.var 6) (some (.idx (.idxv 9 (.var 11)) (.int (2)))) (some (.idx (.idxv 9 (.var 10)) (.int (1)))))] none) (.bool false)) [(.ret (.bool false))] [])])]),(.unp [12,13] (.call 13 [(.var 8),(.int (0))] none)),(.asg 14 (.bi .sum [(.var 3)])),(.asg 15 (.call 5 [(.bin .div (.bin .mul (.bin .mod (.var 14) (.int (3))) (.int (2))) (.int (6))),(.flt 4607182418800017408),(.flt 4607182418800017408)] none)),(.asg 16 (.call 5 [(.bin .div (.bin .mul (.bin .mod (.bin .add (.bin .add (.bin .mod (.var 14) (.int (3))) (.int (1))) (.bin .mod (.bin .fdiv (.var 14) (.int (3))) (.int (2)))) (.int (3))) (.int (2))) (.int (6))),(.flt 4607182418800017408),(.flt 4607182418800017408)] none)),(.asg 17 (.call 15 [(.var 13)] (some [((.int (0)),(.var 15)),((.var 12),(.var 16))]))),(.forn [18,19,20] (.val (.var 13)) [(.asg 21 (.comp (.bin .div (.bin .add (.bin .add (.idx (.idxv 17 (.var 18)) (.var 30)) (.idx (.idxv 17 (.var 19)) (.var 30))) (.idx (.idxv 17 (.var 20)) (.var 30))) (.int (4))) 30 (.range (.int (3))) [])),(.ifs (.neF (.call 4 [(.idxv 21 (.int (0))),(.idxv 21 (.int (1))),(.idxv 21 (.int (2)))] none) none [0,0,4598175219545276416] []) [(.ret (.bool false))] [])]),(.for1 22 (.range (.var 12)) [(.asg 23 (.call 16 [(.var 13),(.var 22),(.var 12)] none)),(.for1 24 (.range2 (.bin .add (.var 22) (.int (1))) (.bin .add (.var 12) (.int (1)))) [(.asg 25 (.call 14 [(.idxv 17 (.var 22)),(.idxv 17 (.var 24))] none)),(.asg 26 (.call 3 [(.idxv 25 (.int (0))),(.idxv 25 (.int (1))),(.idxv 25 (.int (2)))] none)),(.ifs (.neF (.slc (.var 26) (some (.int (1))) none) (some (.cmp .eq (.bin .mod (.idxv 23 (.bin .sub (.bin .sub (.var 24) (.var 22)) (.int (1)))) (.int (2))) (.int (1)))) [4598175219545276416,4607182418800017408] [4602678819172646912,4607182418800017408]) [(.ret (.bool false))] [])])]),(.ret (.bool true))]⟩
noncomputable def FT:Nat → Fn
 | 0 => fn0 | 1 => fn1 | 2 => fn2 | 3 => fn3 | 4 => fn4 | 5 => fn5 | 6 => fn6 | 7 => fn7 | 8 => fn8 | 9 => fn9 | 10 => fn10 | 11 => fn11 | 12 => fn12 | 13 => fn13 | 14 => fn14 | 15 => fn15 | 16 => fn16 | 17 => fn17
 | _ => ⟨0, 0, []⟩
section
theorem loopF_c {f:PV → Ev → Option (Fl × Ev)} {x:PV} {r:List PV} {e:Ev}:loopF f (x :: r) e = (match f x e with | some (.next,e) => loopF f r e | y => y):=rfl
theorem nS {α:Type} {z:α} (h:(none:Option α) = some z):False:=nomatch h
theorem sN {α:Type} {z:α} (h:some z = (none:Option α)):False:=nomatch h
theorem fT (h:false = true):False:=nomatch h
open PySem.Sem in
theorem size_upd (h:Heap) (a:Addr) (f:Obj → Obj):(h.update a f).objs.size = h.objs.size:=(Heap.SameBut.update (h:=h) (a:=a) (f:=f)).1
theorem runs_size {M:Model} {Γ:Ctx} {p:Pos} {t:Sem Fin} {fs:List Frame} {s s':Shared} {e:End} (h:Runs M Γ p t fs s e s'):s.heap.objs.size ≤ s'.heap.objs.size:=by
 induction h <;> (try simp only [Shared.setGen,size_upd,Heap.size_push] at *) <;> lia
noncomputable def vInt {α:Type} (f:Int → Option α):Value → Option α
 | .int i _ => f i
 | _ => none
noncomputable def vStr {α:Type} (f:PySem.Str → Option α):Value → Option α
 | .str x _ => f x
 | _ => none
noncomputable def vRef {α:Type} (f:Addr → Option α):Value → Option α
 | .ref a => f a
 | _ => none
theorem vInt_ {α:Type} {f:Int → Option α} {v:Value} {z:α} (h:vInt f v = some z):∃ i t,v = .int i t ∧ f i = some z:=by cases v <;> first | exact (nS h).elim | exact ⟨_,_,rfl,h⟩
theorem vStr_ {α:Type} {f:PySem.Str → Option α} {v:Value} {z:α} (h:vStr f v = some z):∃ i t,v = .str i t ∧ f i = some z:=by cases v <;> first | exact (nS h).elim | exact ⟨_,_,rfl,h⟩
theorem vRef_ {α:Type} {f:Addr → Option α} {v:Value} {z:α} (h:vRef f v = some z):∃ a,v = .ref a ∧ f a = some z:=by cases v <;> first | exact (nS h).elim | exact ⟨_,rfl,h⟩
theorem wakes_size {M:Model} {Γ:Ctx} {p:Pos} {g:Nat} {r:Resume} {s s':Shared} {res:GenResult} (h:Wakes M Γ p g r s res s'):s.heap.objs.size ≤ s'.heap.objs.size:=by
 unfold Wakes at h
 split at h
 ·exact h.elim
 ·split at h
  ·obtain ⟨e₁,s₁,hr,_,_,rfl⟩:=h;exact (runs_size hr:(s.setGen g .running).heap.objs.size ≤ s₁.heap.objs.size)
  ·rw [h.2];exact Nat.le_refl _
  ·rw [h.2];exact Nat.le_refl _
 ·obtain ⟨e₁,s₁,hr,_,_,rfl⟩:=h;exact (runs_size hr:(s.setGen g .running).heap.objs.size ≤ s₁.heap.objs.size)
 ·rw [h.2];exact Nat.le_refl _
 ·rw [h.2];exact Nat.le_refl _
noncomputable def Big (n:Nat) (s:Shared):Prop:=n ≤ s.heap.objs.size
theorem wp_size {α:Type} (M:Model) (Γ:Ctx) (n:Nat) (t:Sem α):∀ (Q:α → Pos → Shared → Prop) (E:Value → Pos → Shared → Prop) (p:Pos) (s:Shared),Big n s → Sem.wp M Γ t Q E p s →
  Sem.wp M Γ t (fun a p' s' => Big n s' ∧ Q a p' s') (fun e p' s' => Big n s' ∧ E e p' s') p s:=by
 induction t with
 | pure a => exact fun Q E p s hn h => ⟨hn,h⟩
 | raise e => exact fun Q E p s hn h => ⟨hn,h⟩
 | rule _ k ih => exact fun Q E p s hn h => ih () Q E p s hn h
 | «at» p' k ih => exact fun Q E p s hn h => ih () Q E p' s hn h
 | point _ k ih => exact fun Q E p s hn h => ih () Q E p s hn h
 | load a _ k ih => exact fun Q E p s hn ⟨o,ho,h⟩ => ⟨o,ho,ih o Q E p s hn h⟩
 | loadIfAlive a k ih => exact fun Q E p s hn h => ih _ Q E p s hn h
 | update a _ f k ih => exact fun Q E p s hn h => ⟨h.1,ih () Q E p _ (Nat.le_trans hn (Nat.le_of_eq (size_upd ..).symm)) h.2⟩
 | alloc o k ih => exact fun Q E p s hn h => ih _ Q E p _ (Nat.le_trans hn (by show _ ≤ (s.heap.push o).objs.size;rw [Heap.size_push];exact Nat.le_succ _)) h
 | fresh k ih => exact fun Q E p s hn h => ih _ Q E p _ hn h
 | ask k ih => exact fun Q E p s hn h => ih _ Q E p s hn h
 | choose src m k ih => exact fun Q E p s hn h => ⟨h.1,ih _ Q E p _ hn h.2⟩
 | os q _ k ih => exact fun Q E p s hn h => ih _ Q E p _ hn h
 | call c hd _ _ k ih => exact fun Q E p s hn ⟨r,s',hr,h⟩ => ⟨r,s',hr,ih r Q E p s' (Nat.le_trans hn (runs_size hr)) h⟩
 | handled own k ih => exact fun Q E p s hn h => ih _ Q E p s hn h
 | genState g k ih => exact fun Q E p s hn ⟨st,hs,h⟩ => ⟨st,hs,ih _ Q E p s hn h⟩
 | newGen c k ih => exact fun Q E p s hn h => ih _ Q E p _ hn h
 | resume g r _ k ih => exact fun Q E p s hn ⟨res,s',hw,h⟩ => ⟨res,s',hw,ih res Q E p s' (Nat.le_trans hn (wakes_size hw)) h⟩
 | stack k ih => exact fun Q E p s hn h => ih _ Q E p s hn h
 | thread k ih => exact fun Q E p s hn h => ih _ Q E p s hn h
 | unsupported _ => exact fun _ _ _ _ _ h => h
 | finish _ => exact fun _ _ _ _ _ h => h
 | register _ _ => exact fun _ _ _ _ _ h => h
 | yield _ _ _ _ => exact fun _ _ _ _ _ h => h
 | fork _ _ => exact fun _ _ _ _ _ h => h
 | await _ _ _ _ _ => exact fun _ _ _ _ _ h => h
theorem wpAny_grow {α:Type} {M:Model} {A:Around} {s:Shared} {t:Sem α} {Q:α → Shared → Prop} {E:Value → Shared → Prop}
  (h:wpAny M A t (fun a s' => s.heap.objs.size ≤ s'.heap.objs.size → s.toks ≤ s'.toks → Q a s') (fun e s' => s.heap.objs.size ≤ s'.heap.objs.size → s.toks ≤ s'.toks → E e s') s):wpAny M A t Q E s:=by
 have h2:wpAny M A t (fun a s' => Big s.heap.objs.size s' ∧ (s.heap.objs.size ≤ s'.heap.objs.size → s.toks ≤ s'.toks → Q a s')) (fun e s' => Big s.heap.objs.size s' ∧ (s.heap.objs.size ≤ s'.heap.objs.size → s.toks ≤ s'.toks → E e s')) s :=
  fun Γ p hΓ => wp_size M Γ s.heap.objs.size t _ _ p s (Nat.le_refl _) (h Γ p hΓ)
 exact wpAny_with_toks (Nat.le_refl _) (wpAny_mono h2 (fun _ _ x => x.2 x.1) fun _ _ x => x.2 x.1)
end
section
structure Ext (L:Addr) (s s':Shared):Prop where
 heap:∀ b o,b ≠ L → s.heap.get? b = some o → s'.heap.get? b = some o
 ns:∀ m,s.heap.Ns L m → s'.heap.Ns L m
 gens:∀ (i:Nat) (x:GenState),s.gens[i]? = some x → s'.gens[i]? = some x
 fin:∀ (i:Nat) (x:GenState),s'.gens[i]? = some x → s.gens[i]? = some x ∨ x.bare = true
 os:s'.os = s.os
 tk:s.toks ≤ s'.toks
theorem Ext.refl (L:Addr) (s:Shared):Ext L s s:=⟨fun _ _ _ e => e,fun _ h => h,fun _ _ e => e,fun _ _ e => .inl e,rfl,Nat.le_refl _⟩
theorem Ext.trans {L:Addr} {s₁ s₂ s₃:Shared} (a:Ext L s₁ s₂) (b:Ext L s₂ s₃):Ext L s₁ s₃ :=
 ⟨fun c o h e => b.heap c o h (a.heap c o h e),fun m h => b.ns m (a.ns m h),fun i x e => b.gens i x (a.gens i x e),fun i x e => (b.fin i x e).elim (fun e => a.fin i x e) .inr,b.os.trans a.os,Nat.le_trans a.tk b.tk⟩
theorem Ext.keep {L:Addr} {s:Shared} {h':Heap} {tk:Nat} (k:∀ b o,s.heap.get? b = some o → h'.get? b = some o) (ht:s.toks ≤ tk):Ext L s { s with heap:=h',toks:=tk } :=
 ⟨fun b o _ e => k b o e,fun _ ⟨o,es,ep,e,r⟩ => ⟨o,es,ep,k _ _ e,r⟩,fun _ _ e => e,fun _ _ e => .inl e,rfl,ht⟩
theorem Ext.toks (L:Addr) (s:Shared) (tk:Nat) (ht:s.toks ≤ tk):Ext L s { s with toks:=tk }:=Ext.keep (fun _ _ e => e) ht
theorem Ext.push (L:Addr) (s:Shared) (o:Obj) (tk:Nat) (ht:s.toks ≤ tk):Ext L s { s with heap:=s.heap.push o,toks:=tk }:=Ext.keep (fun _ _ e => Heap.get?_push_of_some o e) ht
theorem Ext.pushS (L:Addr) (s:Shared) (o:Obj):Ext L s { s with heap:=s.heap.push o }:=Ext.push L s o s.toks (Nat.le_refl _)
theorem fresh_none (h:Heap):h.get? h.objs.size = none:=by
 cases e:h.get? h.objs.size with
 | none => rfl
 | some o => exact absurd (Heap.lt_size e) (Nat.lt_irrefl _)
noncomputable def glA:Gl → Addr
 | .b1 => 64
 | .b3 => 75
 | .tok => 121
mutual
inductive Rep (w:World) (h:Heap) (X:Addr → Prop) (n:Nat):Value → PV → Prop
 | none:Rep w h X n .none .none
 | bool (b:Bool):Rep w h X n (.bool b) (.bool b)
 | int (i:Int) (t:Tok):Rep w h X n (.int i t) (.int i)
 | flt (u:UInt64) (t:Tok) (h0:t ≠ 0) (h1:t < n):Rep w h X n (.float u t) (.flt u)
 | str (l:List Nat) (t:Tok):Rep w h X n (.str (k l) t) (.str l)
 | tup {a:Addr} {vs:List Value} {l:List PV} (ha:h.IsTuple a vs.toArray) (hx:¬ X a) (hr:Reps w h X n vs l):Rep w h X n (.ref a) (.tup l)
 | list {a:Addr} {vs:List Value} {l:List PV} (ha:h.IsList a vs.toArray) (hx:¬ X a) (hr:Reps w h X n vs l):Rep w h X n (.ref a) (.list l)
 | dict {a:Addr} {kvs:List (Int × Value)} {l:List (Int × PV)} {ep:Nat} (ha:h.DictAt (intKind pw w) a kvs ep) (hs:(a == sysModules) = false) (hx:¬ X a) (hk:kvs.map (·.1) = l.map (·.1)) (hr:Reps w h X n (kvs.map (·.2)) (l.map (·.2))):Rep w h X n (.ref a) (.dict l)
 | gl (g:Gl):Rep w h X n (.ref (glA g)) (.gl g)
inductive Reps (w:World) (h:Heap) (X:Addr → Prop) (n:Nat):List Value → List PV → Prop
 | nil:Reps w h X n [] []
 | cons {v:Value} {p:PV} {vs:List Value} {l:List PV} (a:Rep w h X n v p) (b:Reps w h X n vs l):Reps w h X n (v :: vs) (p :: l)
end
section
variable {w:World} {h h':Heap} {X Y:Addr → Prop} {n n':Nat}
theorem dictAt_keep {a:Addr} {kvs:List (Int × Value)} {ep:Nat} (x:h.DictAt (intKind pw w) a kvs ep) (k:∀ o,h.get? a = some o → h'.get? a = some o):h'.DictAt (intKind pw w) a kvs ep:=by
 obtain ⟨o,es,e,r⟩:=x
 exact ⟨o,es,k o e,r⟩
theorem hy_not {a:Addr} {o:Obj} (hx:¬ X a) (e:h.get? a = some o) (hy:∀ b,Y b → X b ∨ h.get? b = none):¬ Y a:=fun y => by
 rcases hy _ y with q | q
 ·exact hx q
 ·rw [q] at e;exact (nS e).elim
theorem Rep.mono (hk:∀ b o,¬ X b → h.get? b = some o → h'.get? b = some o) (hy:∀ b,Y b → X b ∨ h.get? b = .none) (hn:n ≤ n') {v:Value} {p:PV} (r:Rep w h X n v p):Rep w h' Y n' v p :=
 r.rec (motive_1:=fun v p _ => Rep w h' Y n' v p) (motive_2:=fun v p _ => Reps w h' Y n' v p) .none .bool .int (fun u t h0 h1 => .flt u t h0 (Nat.lt_of_lt_of_le h1 hn)) .str (fun ⟨o,e,c⟩ hx _ hr => .tup ⟨o,hk _ _ hx e,c⟩ (hy_not hx e hy) hr)
  (fun ⟨o,e,c⟩ hx _ hr => .list ⟨o,hk _ _ hx e,c⟩ (hy_not hx e hy) hr) (fun ⟨o,es,e,c⟩ hs hx hkk _ hr => .dict ⟨o,es,hk _ _ hx e,c⟩ hs (hy_not hx e hy) hkk hr) .gl .nil fun _ _ a b => .cons a b
theorem Reps.mono (hk:∀ b o,¬ X b → h.get? b = some o → h'.get? b = some o) (hy:∀ b,Y b → X b ∨ h.get? b = none) (hn:n ≤ n') {vs:List Value} {l:List PV} (r:Reps w h X n vs l):Reps w h' Y n' vs l :=
 r.rec (motive_1:=fun v p _ => Rep w h' Y n' v p) (motive_2:=fun v p _ => Reps w h' Y n' v p) .none .bool .int (fun u t h0 h1 => .flt u t h0 (Nat.lt_of_lt_of_le h1 hn)) .str (fun ⟨o,e,c⟩ hx _ hr => .tup ⟨o,hk _ _ hx e,c⟩ (hy_not hx e hy) hr)
  (fun ⟨o,e,c⟩ hx _ hr => .list ⟨o,hk _ _ hx e,c⟩ (hy_not hx e hy) hr) (fun ⟨o,es,e,c⟩ hs hx hkk _ hr => .dict ⟨o,es,hk _ _ hx e,c⟩ hs (hy_not hx e hy) hkk hr) .gl .nil fun _ _ a b => .cons a b
noncomputable def RepV (w:World) (h:Heap) (X:Addr → Prop) (n:Nat) (v:Value):PV → Prop
 | .none => v = .none
 | .bool b => v = .bool b
 | .int i => ∃ t,v = .int i t
 | .flt u => ∃ t,v = .float u t ∧ t ≠ 0 ∧ t < n
 | .str l => ∃ t,v = .str (k l) t
 | .tup l => ∃ a vs,v = .ref a ∧ h.IsTuple a (List.toArray vs) ∧ ¬ X a ∧ Reps w h X n vs l
 | .list l => ∃ a vs,v = .ref a ∧ h.IsList a (List.toArray vs) ∧ ¬ X a ∧ Reps w h X n vs l
 | .dict l => ∃ a kvs ep,v = .ref a ∧ h.DictAt (intKind pw w) a kvs ep ∧ (a == sysModules) = false ∧ ¬ X a ∧ kvs.map (·.1) = l.map (·.1) ∧ Reps w h X n (kvs.map (·.2)) (l.map (·.2))
 | .gl g => v = .ref (glA g)
theorem Rep.inv {v:Value} {p:PV} (r:Rep w h X n v p):RepV w h X n v p :=
 r.casesOn rfl (fun _ => rfl) (fun _ t => ⟨t,rfl⟩) (fun _ t a b => ⟨t,rfl,a,b⟩) (fun _ t => ⟨t,rfl⟩) (fun a b c => ⟨_,_,rfl,a,b,c⟩) (fun a b c => ⟨_,_,rfl,a,b,c⟩) (fun a b c d e => ⟨_,_,_,rfl,a,b,c,d,e⟩) (fun _ => rfl)
theorem Rep.intE {v:Value} {i:Int} (r:Rep w h X n v (.int i)):∃ t,v = .int i t:=r.inv
theorem Rep.boolE {v:Value} {b:Bool} (r:Rep w h X n v (.bool b)):v = .bool b:=r.inv
theorem Rep.noneE {v:Value} (r:Rep w h X n v .none):v = .none:=r.inv
theorem Rep.glE {v:Value} {g:Gl} (r:Rep w h X n v (.gl g)):v = .ref (glA g):=r.inv
theorem Rep.strE {v:Value} {l:List Nat} (r:Rep w h X n v (.str l)):∃ t,v = .str (k l) t:=r.inv
theorem Rep.fltE {v:Value} {u:UInt64} (r:Rep w h X n v (.flt u)):∃ t,v = .float u t ∧ t ≠ 0 ∧ t < n:=r.inv
theorem Rep.tupE {v:Value} {l:List PV} (r:Rep w h X n v (.tup l)):∃ a vs,v = .ref a ∧ h.IsTuple a (List.toArray vs) ∧ ¬ X a ∧ Reps w h X n vs l:=r.inv
theorem Rep.listE {v:Value} {l:List PV} (r:Rep w h X n v (.list l)):∃ a vs,v = .ref a ∧ h.IsList a (List.toArray vs) ∧ ¬ X a ∧ Reps w h X n vs l:=r.inv
theorem Rep.dictE {v:Value} {l:List (Int × PV)} (r:Rep w h X n v (.dict l)):∃ a kvs ep,v = .ref a ∧ h.DictAt (intKind pw w) a kvs ep ∧ (a == sysModules) = false ∧ ¬ X a ∧ kvs.map (·.1) = l.map (·.1) ∧ Reps w h X n (kvs.map (·.2)) (l.map (·.2)):=r.inv
theorem Reps.nilE {vs:List Value} (r:Reps w h X n vs []):vs = []:=by cases r;rfl
theorem Reps.consE {vs:List Value} {p:PV} {l:List PV} (r:Reps w h X n vs (p :: l)):∃ v us,vs = v :: us ∧ Rep w h X n v p ∧ Reps w h X n us l:=by cases r;exact ⟨_,_,rfl,‹_›,‹_›⟩
theorem Reps.oneE {vs:List Value} {p:PV} (r:Reps w h X n vs [p]):∃ v,vs = [v] ∧ Rep w h X n v p:=by
 obtain ⟨v,us,rfl,a,b⟩:=r.consE
 exact ⟨v,by rw [b.nilE],a⟩
theorem Reps.length {vs:List Value} {l:List PV} (r:Reps w h X n vs l):vs.length = l.length:=by
 induction l generalizing vs with
 | nil => cases r;rfl
 | cons p l ih => cases r with | cons a b => simp [ih b]
theorem Reps.get {vs:List Value} {l:List PV} (r:Reps w h X n vs l) (i:Nat) {p:PV} (e:l[i]? = some p):∃ v,vs[i]? = some v ∧ Rep w h X n v p:=by
 induction l generalizing vs i with
 | nil => simp at e
 | cons q l ih =>
  cases r with
  | cons a b =>
   cases i with
   | zero => simp at e;subst e;exact ⟨_,rfl,a⟩
   | succ i => simpa using ih b i (by simpa using e)
theorem Reps.append {vs ws:List Value} {l r:List PV} (a:Reps w h X n vs l) (b:Reps w h X n ws r):Reps w h X n (vs ++ ws) (l ++ r):=by
 induction l generalizing vs with
 | nil => cases a;exact b
 | cons q l ih => cases a with | cons x y => exact .cons x (ih y)
theorem Reps.take {vs:List Value} {l:List PV} (a:Reps w h X n vs l) (m:Nat):Reps w h X n (vs.take m) (l.take m):=by
 induction l generalizing vs m with
 | nil => cases a;simp;exact .nil
 | cons q l ih => cases a with | cons x y => cases m with
  | zero => exact .nil
  | succ m => exact .cons x (ih y m)
theorem Reps.drop {vs:List Value} {l:List PV} (a:Reps w h X n vs l) (m:Nat):Reps w h X n (vs.drop m) (l.drop m):=by
 induction l generalizing vs m with
 | nil => cases a;simp;exact .nil
 | cons q l ih => cases a with | cons x y => cases m with
  | zero => exact .cons x y
  | succ m => exact ih y m
theorem Reps.mem {vs:List Value} {l:List PV} (r:Reps w h X n vs l) {v:Value} (m:v ∈ vs):∃ p ∈ l,Rep w h X n v p:=by
 induction l generalizing vs with
 | nil => cases r;cases m
 | cons q l ih =>
  cases r with
  | cons a b =>
   rcases List.mem_cons.mp m with rfl | m
   ·exact ⟨_,.head _,a⟩
   ·obtain ⟨p,hp,hr⟩:=ih b m
    exact ⟨p,.tail _ hp,hr⟩
noncomputable def NameAt (penv:Env) (h:Heap) (x:PySem.Str) (v:Value):Prop :=
 (penv.kindOf x = some .local ∧ ∃ m,h.Ns penv.locals m ∧ m x = some v) ∨ (penv.kindOf x = some .cell ∧ ∃ c,penv.cells.lookup x = some c ∧ h.IsCell c (some v))
noncomputable def Slot.own:Slot → Bool
 | .val _ => false
 | _ => true
noncomputable def Low (a:Addr):Prop:=a < 188 ∧ a ≠ 57 ∧ a ≠ 59 ∧ a ≠ 63
noncomputable def XS (Z:Addr → Prop) (penv:Env) (O:Nat → Addr) (e:Ev) (a:Addr):Prop :=
 Low a ∨ Z a ∨ a = penv.locals ∨ (∃ x,penv.cells.lookup x = some a) ∨ ∃ i s,getS e i = some s ∧ s.own = true ∧ O i = a
noncomputable def SlotRep (w:World) (h:Heap) (X:Addr → Prop) (n:Nat) (a:Addr) (v:Value):Slot → Prop
 | .val p => Rep w h X n v p
 | .ownL l => v = .ref a ∧ ∃ vs k,h.get? a = some ⟨.type "list",none,.seq (List.toArray vs) k,#[]⟩ ∧ Reps w h X n vs l
 | .ownD l => v = .ref a ∧ ∃ kvs ep,h.DictAt (intKind pw w) a kvs ep ∧ (a == sysModules) = false ∧ kvs.map (·.1) = l.map (·.1) ∧ Reps w h X n (kvs.map (·.2)) (l.map (·.2))
structure Stat (penv:Env) (G:List PySem.Str) (R:List (PySem.Str × Nat)) (N:Nat):Prop where
 fn:penv.scope.kind = .function
 co:penv.scope.isCoroutine = false
 glob:penv.globals = mainGlobals
 bi:penv.builtins = builtinsNs
 lo:188 ≤ penv.locals
 gs:∀ x ∈ G,penv.kindOf x = some .globalImplicit
 kinds:∀ x i,R.lookup x = some i → penv.kindOf x = some .local ∨ (penv.kindOf x = some .cell ∧ ∃ c,penv.cells.lookup x = some c)
 cl:∀ x c,penv.cells.lookup x = some c → c ≠ penv.locals ∧ 188 ≤ c
 apart:∀ x y c,penv.cells.lookup x = some c → penv.cells.lookup y = some c → x = y
 inj:∀ x y i,R.lookup x = some i → R.lookup y = some i → x = y
 lt:∀ x i,R.lookup x = some i → i < N
 dbg:∀ x i,R.lookup x = some i → (x == ("__debug__" : PySem.Str)) = false
structure Inv (w:World) (penv:Env) (R:List (PySem.Str × Nat)) (Z:Addr → Prop) (O:Nat → Addr) (e:Ev) (h:Heap) (n:Nat):Prop where
 pos:1 ≤ n
 base:(KF w.params).In h
 ns:∃ m,h.Ns penv.locals m
 zex:∀ a,Z a → a < h.objs.size
 cells:∀ x c,penv.cells.lookup x = some c → ∃ v,h.IsCell c v
 vars:∀ x i s,R.lookup x = some i → getS e i = some s → ∃ v,NameAt penv h x v ∧ SlotRep w h (XS Z penv O e) n (O i) v s
 inj:∀ i j s t,getS e i = some s → s.own = true → getS e j = some t → t.own = true → O i = O j → i = j
 ne:∀ i s,getS e i = some s → s.own = true → O i ≠ penv.locals ∧ 188 ≤ O i ∧ (∀ x,penv.cells.lookup x ≠ some (O i)) ∧ (∃ o,h.get? (O i) = some o) ∧ ¬ Z (O i)
end
end
section
theorem getS_lt {e:Ev} {i:Nat} {s:Slot} (h:getS e i = some s):i < e.length:=by
 unfold getS at h
 rcases Nat.lt_or_ge i e.length with q | q
 ·exact q
 ·rw [List.getElem?_eq_none q] at h;exact (nS h).elim
theorem getS_setS {e:Ev} {i j:Nat} {s:Slot}:getS (setS e i s) j = if i = j ∧ i < e.length then some s else getS e j:=by
 unfold getS setS
 rw [List.getElem?_set]
 by_cases h:i = j
 ·subst h
  by_cases q:i < e.length
  ·simp [q]
  ·simp [q,List.getElem?_eq_none (Nat.le_of_not_lt q)]
 ·simp [h]
theorem getS_same {e:Ev} {i:Nat} {s t:Slot} (h:getS e i = some t):getS (setS e i s) i = some s:=by rw [getS_setS,if_pos ⟨rfl,getS_lt h⟩]
theorem getS_other {e:Ev} {i j:Nat} {s:Slot} (h:i ≠ j):getS (setS e i s) j = getS e j:=by rw [getS_setS,if_neg fun q => h q.1]
theorem ns_uniq {h:Heap} {L:Addr} {m m':PySem.Str → Option Value} (a:h.Ns L m) (b:h.Ns L m'):m = m':=by
 obtain ⟨o,es,ep,e,d,_,q⟩:=a
 obtain ⟨o',es',ep',e',d',_,q'⟩:=b
 rw [e] at e';first | exact (nS e').elim | exact (sN e').elim | exact (fT e').elim | cases e'
 rw [d] at d';first | exact (nS d').elim | exact (sN d').elim | exact (fT d').elim | cases d'
 funext x
 rw [← q,← q']
theorem kf_lt {P:Params} {a:Addr} {o:Obj} (h:(KF P).lookup a = some o):a < 188:=by
 have:∀ (l:List Nat),(l.map fun i => (i,((TS8 P).get i).getD default)).lookup a = some o → a ∈ l:=by
  intro l
  induction l with
  | nil => intro h;simp at h
  | cons b l ih =>
   intro h
   rw [List.map_cons,List.lookup_cons] at h
   by_cases q:a = b
   ·subst q;exact .head _
   ·rw [beq_eq_false_iff_ne.mpr q] at h;exact .tail _ (ih h)
 exact List.mem_range.mp (this _ h)
section
variable {w:World} {penv:Env} {G:List PySem.Str} {R:List (PySem.Str × Nat)} {N:Nat} {Z Z':Addr → Prop} {O:Nat → Addr} {e:Ev} {h h':Heap} {s s':Shared} {n n':Nat}
theorem xs_loc:XS Z penv O e penv.locals:=.inr (.inr (.inl rfl))
theorem xs_cell {x:PySem.Str} {c:Addr} (q:penv.cells.lookup x = some c):XS Z penv O e c:=.inr (.inr (.inr (.inl ⟨x,q⟩)))
theorem xs_own {i:Nat} {t:Slot} (hg:getS e i = some t) (ho:t.own = true):XS Z penv O e (O i):=.inr (.inr (.inr (.inr ⟨i,t,hg,ho,rfl⟩)))
theorem xs_z {a:Addr} (q:Z a):XS Z penv O e a:=.inr (.inl q)
theorem xs_mono (hz:∀ b,Z' b → Z b ∨ h.get? b = none):∀ b,XS Z' penv O e b → XS Z penv O e b ∨ h.get? b = none:=by
 rintro b (q | q | q | q | q)
 ·exact .inl (.inl q)
 ·exact (hz b q).imp xs_z id
 ·exact .inl (.inr (.inr (.inl q)))
 ·exact .inl (.inr (.inr (.inr (.inl q))))
 ·exact .inl (.inr (.inr (.inr (.inr q))))
theorem SlotRep.chg {X Y:Addr → Prop} {a:Addr} {v:Value} {t:Slot} (r:SlotRep w h X n a v t) (hk:∀ b o,¬ X b → h.get? b = some o → h'.get? b = some o)
  (hy:∀ b,Y b → X b ∨ h.get? b = none) (hn:n ≤ n') (ha:t.own = true → ∀ o,h.get? a = some o → h'.get? a = some o):SlotRep w h' Y n' a v t:=by
 cases t with
 | val p => exact Rep.mono hk hy hn r
 | ownL l =>
  obtain ⟨rfl,vs,m,e,q⟩:=r
  exact ⟨rfl,vs,m,ha rfl _ e,Reps.mono hk hy hn q⟩
 | ownD l =>
  obtain ⟨rfl,kvs,ep,⟨o,es,e,c⟩,hs,hkk,q⟩:=r
  exact ⟨rfl,kvs,ep,⟨o,es,ha rfl _ e,c⟩,hs,hkk,Reps.mono hk hy hn q⟩
theorem Inv.xex (I:Inv w penv R Z O e h n) (hsz:188 ≤ h.objs.size):∀ a,XS Z penv O e a → a < h.objs.size:=by
 rintro b (q | q | q | ⟨x,q⟩ | ⟨i,t,hg,ho,rfl⟩)
 ·exact Nat.lt_of_lt_of_le q.1 hsz
 ·exact I.zex b q
 ·obtain ⟨m,o,_,_,e,_⟩:=I.ns;exact q ▸ Heap.lt_size e
 ·obtain ⟨v,o,e,_⟩:=I.cells x b q;exact Heap.lt_size e
 ·obtain ⟨o,e⟩:=(I.ne i t hg ho).2.2.2.1;exact Heap.lt_size e
theorem Inv.chg (I:Inv w penv R Z O e h n) (hk:∀ b o,¬ XS Z penv O e b → h.get? b = some o → h'.get? b = some o)
  (hown:∀ i t,getS e i = some t → t.own = true → ∀ o,h.get? (O i) = some o → h'.get? (O i) = some o)
  (hlo:∀ b o,b < 188 → h.get? b = some o → h'.get? b = some o) (hns:∀ m,h.Ns penv.locals m → h'.Ns penv.locals m)
  (hc:∀ x c v,penv.cells.lookup x = some c → h.IsCell c v → h'.IsCell c v)
  (hz:∀ b,Z' b → Z b ∨ h.get? b = none) (hze:∀ b,Z' b → b < h'.objs.size) (hn:n ≤ n'):Inv w penv R Z' O e h' n' where
 pos:=Nat.le_trans I.pos hn
 base a o q:=hlo a o (kf_lt q) (I.base a o q)
 ns:=let ⟨m,q⟩:=I.ns;⟨m,hns m q⟩
 zex:=hze
 cells x c q:=let ⟨v,r⟩:=I.cells x c q;⟨v,hc x c v q r⟩
 vars y i t hr hg:=by
  obtain ⟨v,nm,r⟩:=I.vars y i t hr hg
  refine ⟨v,?_,r.chg hk (xs_mono hz) hn fun ho => hown i t hg ho⟩
  rcases nm with ⟨k,m,a,b⟩ | ⟨k,c,a,b⟩
  ·exact .inl ⟨k,m,hns m a,b⟩
  ·exact .inr ⟨k,c,a,hc y c _ a b⟩
 inj:=I.inj
 ne i t hg ho:=by
  obtain ⟨a,b,c,⟨o,d⟩,f⟩:=I.ne i t hg ho
  refine ⟨a,b,c,⟨o,hown i t hg ho o d⟩,fun z => ?_⟩
  rcases hz _ z with z | z
  ·exact f z
  ·rw [z] at d;exact (nS d).elim
theorem isCell_at {c:Addr} {v:Option Value} (x:h.IsCell c v) (hk:∀ o,h.get? c = some o → h'.get? c = some o):h'.IsCell c v:=let ⟨o,e,d⟩:=x;⟨o,hk o e,d⟩
theorem Inv.ext (I:Inv w penv R Z O e s.heap s.toks) (S:Stat penv G R N) (x:Ext penv.locals s s') (hs:s.heap.objs.size ≤ s'.heap.objs.size):Inv w penv R Z O e s'.heap s'.toks :=
 I.chg (fun b o nx q => x.heap b o (fun z => nx (z ▸ xs_loc)) q) (fun i t hg ho o q => x.heap _ o (I.ne i t hg ho).1 q) (fun b o hb q => x.heap b o (by rintro rfl;exact absurd hb (Nat.not_lt.mpr S.lo)) q)
  x.ns (fun y c v hc q => isCell_at q fun o p => x.heap c o (S.cl y c hc).1 p) (fun _ z => .inl z) (fun b z => Nat.lt_of_lt_of_le (I.zex b z) hs) x.tk
theorem Rep.ext {v:Value} {p:PV} (r:Rep w s.heap (XS Z penv O e) s.toks v p) (x:Ext penv.locals s s'):Rep w s'.heap (XS Z penv O e) s'.toks v p :=
 Rep.mono (fun b o nx q => x.heap b o (fun z => nx (z ▸ xs_loc)) q) (fun _ z => .inl z) x.tk r
theorem Reps.ext {v:List Value} {p:List PV} (r:Reps w s.heap (XS Z penv O e) s.toks v p) (x:Ext penv.locals s s'):Reps w s'.heap (XS Z penv O e) s'.toks v p :=
 Reps.mono (fun b o nx q => x.heap b o (fun z => nx (z ▸ xs_loc)) q) (fun _ z => .inl z) x.tk r
noncomputable def Le (e e':Ev):Prop:=e'.length = e.length ∧ ∀ i t,getS e' i = some t → t.own = true → getS e i = some t
theorem Le.refl (e:Ev):Le e e:=⟨rfl,fun _ _ a _ => a⟩
theorem Le.trans {a b c:Ev} (x:Le a b) (y:Le b c):Le a c:=⟨y.1.trans x.1,fun i t h o => x.2 i t (y.2 i t h o) o⟩
theorem xs_le {e':Ev} (l:Le e e'):∀ b,XS Z penv O e' b → XS Z penv O e b:=by
 rintro b (q | q | q | q | ⟨i,t,hg,ho,rfl⟩)
 ·exact .inl q
 ·exact xs_z q
 ·exact .inr (.inr (.inl q))
 ·exact .inr (.inr (.inr (.inl q)))
 ·exact xs_own (l.2 i t hg ho) ho
theorem Rep.le {e':Ev} {v:Value} {p:PV} (r:Rep w h (XS Z penv O e) n v p) (l:Le e e'):Rep w h (XS Z penv O e') n v p :=
 Rep.mono (fun _ _ _ q => q) (fun b z => .inl (xs_le l b z)) (Nat.le_refl _) r
theorem Reps.le {e':Ev} {v:List Value} {p:List PV} (r:Reps w h (XS Z penv O e) n v p) (l:Le e e'):Reps w h (XS Z penv O e') n v p :=
 Reps.mono (fun _ _ _ q => q) (fun b z => .inl (xs_le l b z)) (Nat.le_refl _) r
theorem Le.froz {i:Nat} {p:PV}:Le e (setS e i (.val p)):=⟨by simp [setS],fun j t h o => by
 rw [getS_setS] at h
 split at h
 ·cases h;cases o
 ·exact h⟩
theorem Inv.froz (I:Inv w penv R Z O e h n) {i:Nat} {t:Slot} (hg:getS e i = some t):Inv w penv R Z O (setS e i (.val (froz t))) h n ∧
  ∀ v,SlotRep w h (XS Z penv O e) n (O i) v t → Rep w h (XS Z penv O (setS e i (.val (Mine.froz t)))) n v (Mine.froz t):=by
 have hsub:∀ b,XS Z penv O (setS e i (.val (Mine.froz t))) b → XS Z penv O e b ∨ h.get? b = none:=fun b y => .inl (xs_le Le.froz b y)
 have hfro:∀ v,SlotRep w h (XS Z penv O e) n (O i) v t → Rep w h (XS Z penv O (setS e i (.val (Mine.froz t)))) n v (Mine.froz t):=by
  intro v r
  have hnx:t.own = true → ¬ XS Z penv O (setS e i (.val (Mine.froz t))) (O i):=fun ho y => by
   obtain ⟨n1,n2,n3,_,n4⟩:=I.ne i t hg ho
   rcases y with z | z | z | ⟨x,z⟩ | ⟨j,u,hj,hu,q⟩
   ·exact absurd z.1 (Nat.not_lt.mpr n2)
   ·exact n4 z
   ·exact n1 z
   ·exact n3 x z
   ·rw [getS_setS] at hj
    split at hj
    ·cases hj;cases hu
    ·rename_i hne
     have:=I.inj j i u t hj hu hg ho q
     exact hne ⟨this.symm,getS_lt hg⟩
  cases t with
  | val p => exact Rep.mono (fun _ _ _ e => e) hsub (Nat.le_refl _) r
  | ownL l =>
   obtain ⟨rfl,vs,m,e,q⟩:=r
   exact .list ⟨_,e,rfl,m,rfl⟩ (hnx rfl) (Reps.mono (fun _ _ _ e => e) hsub (Nat.le_refl _) q)
  | ownD l =>
   obtain ⟨rfl,kvs,ep,e,hs,hkk,q⟩:=r
   exact .dict e hs (hnx rfl) hkk (Reps.mono (fun _ _ _ e => e) hsub (Nat.le_refl _) q)
 refine ⟨{ I with vars:=?_,inj:=?_,ne:=?_ },hfro⟩
 ·intro y j u hr hj
  rw [getS_setS] at hj
  split at hj
  ·rename_i hij
   obtain ⟨rfl,_⟩:=hij
   cases hj
   obtain ⟨v,n,r⟩:=I.vars y i t hr hg
   exact ⟨v,n,hfro v r⟩
  ·obtain ⟨v,n,r⟩:=I.vars y j u hr hj
   exact ⟨v,n,r.chg (fun _ _ _ e => e) hsub (Nat.le_refl _) fun _ _ e => e⟩
 ·intro a b u v ha hu hb hv q
  exact I.inj a b u v (Le.froz.2 a u ha hu) hu (Le.froz.2 b v hb hv) hv q
 ·intro a u ha hu
  exact I.ne a u (Le.froz.2 a u ha hu) hu
theorem load_name {A:Around} {E:Value → Shared → Prop} {x:PySem.Str} {v:Value} {pos:Pos} {Q:Value → Shared → Prop} (hk:penv.scope.kind = .function) (n:NameAt penv s.heap x v) (hd:(x == ("__debug__" : PySem.Str)) = false) (q:Q v s) :
  wpAny (model pw w) A (eval (.Name x pos) penv) Q E s:=by
 refine wpAny_Name ?_ hd
 rcases n with ⟨kk,m,a,b⟩ | ⟨kk,c,a,b⟩
 ·exact wpAny_loadName_local hk kk a b q
 ·exact wpAny_loadName_cell hk kk a b q
theorem xs_put {O':Nat → Addr} {i:Nat} {t:Slot} (hO:∀ j,j ≠ i → O' j = O j):∀ b,XS Z penv O' (setS e i t) b → XS Z penv O e b ∨ (t.own = true ∧ b = O' i):=by
 rintro b (q | q | q | q | ⟨j,u,hg,ho,rfl⟩)
 ·exact .inl (.inl q)
 ·exact .inl (xs_z q)
 ·exact .inl (.inr (.inr (.inl q)))
 ·exact .inl (.inr (.inr (.inr (.inl q))))
 ·rw [getS_setS] at hg
  split at hg
  ·rename_i hij;cases hg;exact .inr ⟨ho,by rw [hij.1]⟩
  ·rename_i hij
   by_cases h:j = i
   ·subst h;exact absurd ⟨rfl,getS_lt hg⟩ hij
   ·rw [hO j h];exact .inl (xs_own hg ho)
theorem put_slot {A:Around} {E:Value → Shared → Prop} {x:PySem.Str} {v:Value} {i:Nat} {t:Slot} {O':Nat → Addr} {Q:Unit → Shared → Prop} (S:Stat penv G R N) (hN:e.length = N) (hR:R.lookup x = some i)
  (I:Inv w penv R Z' O e s.heap s.toks) (hO:∀ j,j ≠ i → O' j = O j) (hzz:∀ b,Z b → Z' b) (hX:∀ b,XS Z penv O' (setS e i t) b → XS Z' penv O e b)
  (hr:SlotRep w s.heap (XS Z penv O' (setS e i t)) s.toks (O' i) v t)
  (hf:t.own = true → O' i ≠ penv.locals ∧ 188 ≤ O' i ∧ (∀ x,penv.cells.lookup x ≠ some (O' i)) ∧ (∃ o,s.heap.get? (O' i) = some o) ∧ ¬ Z (O' i) ∧ ∀ j u,getS e j = some u → u.own = true → O j ≠ O' i)
  (hQ:∀ h' tk,Inv w penv R Z O' (setS e i t) h' tk → (∀ b o,b ≠ penv.locals → (∀ y,penv.cells.lookup y ≠ some b) → s.heap.get? b = some o → h'.get? b = some o) → (∃ m,h'.Ns penv.locals m) → s.toks ≤ tk → Q () { s with heap:=h',toks:=tk }) :
  wpAny (model pw w) A (storeName penv x v) Q E s:=by
 have hiN:i < e.length:=hN ▸ S.lt x i hR
 have done:∀ h' tk,s.toks ≤ tk → (∀ b o,b ≠ penv.locals → (∀ y,penv.cells.lookup y ≠ some b) → s.heap.get? b = some o → h'.get? b = some o) → (∃ m,h'.Ns penv.locals m) →
   (∀ y c,penv.cells.lookup y = some c → ∃ v,h'.IsCell c v) → NameAt penv h' x v → (∀ y u,y ≠ x → NameAt penv s.heap y u → NameAt penv h' y u) → (∀ b,Z' b → b < h'.objs.size) → Q () { s with heap:=h',toks:=tk }:=by
  intro h' tk htk hk hns hcl hx hy hze
  refine hQ h' tk ?_ hk hns htk
  have hkx:∀ Z e' O'' b o,¬ XS Z penv O'' e' b → s.heap.get? b = some o → h'.get? b = some o:=fun Z e' O'' b o nx q => hk b o (fun z => nx (z ▸ xs_loc)) (fun y z => nx (xs_cell z)) q
  have hownk:∀ j u,getS e j = some u → u.own = true → ∀ o,s.heap.get? (O j) = some o → h'.get? (O j) = some o:=fun j u hg ho o q => hk _ o (I.ne j u hg ho).1 (I.ne j u hg ho).2.2.1 q
  refine ⟨Nat.le_trans I.pos htk,fun a o q => hk a o (by rintro rfl;exact absurd (kf_lt q) (Nat.not_lt.mpr S.lo)) (fun y z => absurd (kf_lt q) (Nat.not_lt.mpr (S.cl y a z).2)) (I.base a o q),hns,fun b z => hze b (hzz b z),hcl,?_,?_,?_⟩
  ·intro y j u hyR hg
   rw [getS_setS] at hg
   split at hg
   ·rename_i hij
    obtain ⟨rfl,_⟩:=hij
    cases hg
    obtain rfl:=S.inj x y i hR hyR
    refine ⟨v,hx,hr.chg (fun b o nx q => hkx _ _ _ b o nx q) (fun _ z => .inl z) htk fun ho o q => ?_⟩
    obtain ⟨n1,n2,n3,_⟩:=hf ho
    exact hk _ o n1 n3 q
   ·rename_i hij
    have hji:j ≠ i:=fun z => hij ⟨z.symm,hiN⟩
    have hyx:y ≠ x:=fun z => hji (by subst z;rw [hR] at hyR;exact (Option.some.inj hyR).symm)
    obtain ⟨u',nm,r⟩:=I.vars y j u hyR hg
    refine ⟨u',hy y u' hyx nm,?_⟩
    rw [hO j hji]
    exact r.chg (fun b o nx q => hkx _ _ _ b o nx q) (fun b z => .inl (hX b z)) htk fun ho o q => hownk j u hg ho o q
  ·intro a b u u' ha hu hb hu' q
   rw [getS_setS] at ha hb
   split at ha <;> split at hb
   ·rename_i p p';rw [← p.1,← p'.1]
   ·rename_i p p'
    obtain ⟨rfl,_⟩:=p
    cases ha
    have hbi:b ≠ i:=fun z => p' ⟨z.symm,hiN⟩
    rw [hO b hbi] at q
    exact absurd q.symm ((hf hu).2.2.2.2.2 b u' hb hu')
   ·rename_i p p'
    obtain ⟨rfl,_⟩:=p'
    cases hb
    have hai:a ≠ i:=fun z => p ⟨z.symm,hiN⟩
    rw [hO a hai] at q
    exact absurd q ((hf hu').2.2.2.2.2 a u ha hu)
   ·rename_i p p'
    rw [hO a fun z => p ⟨z.symm,hiN⟩,hO b fun z => p' ⟨z.symm,hiN⟩] at q
    exact I.inj a b u u' ha hu hb hu' q
  ·intro a u ha hu
   rw [getS_setS] at ha
   split at ha
   ·rename_i p
    obtain ⟨rfl,_⟩:=p
    cases ha
    obtain ⟨n1,n2,n3,⟨o,ex⟩,n4,_⟩:=hf hu
    exact ⟨n1,n2,n3,⟨o,hk _ o n1 n3 ex⟩,n4⟩
   ·rename_i p
    rw [hO a fun z => p ⟨z.symm,hiN⟩]
    obtain ⟨a1,a2,a3,⟨o,a4⟩,a5⟩:=I.ne a u ha hu
    exact ⟨a1,a2,a3,⟨o,hk _ o a1 a3 a4⟩,fun z => a5 (hzz _ z)⟩
 rcases S.kinds x i hR with kk | ⟨kk,c,hc⟩
 ·obtain ⟨m,hm⟩:=I.ns
  refine wpAny_storeName_local kk hm (fun h' hn' hs' => ?_) (by rw [S.fn];rfl)
  refine done h' (s.toks + 1) (Nat.le_succ _) (fun b o hb _ q => hs'.extBut b o hb q) ⟨_,hn'⟩ (fun y c hc => ?_) (.inl ⟨kk,_,hn',by simp⟩) (fun y u hyx nm => ?_) (fun b z => ?_)
  ·obtain ⟨v,q⟩:=I.cells y c hc;exact ⟨v,q.sameBut hs' (S.cl y c hc).1⟩
  ·rcases nm with ⟨k',m',a,b⟩ | ⟨k',c,a,b⟩
   ·refine .inl ⟨k',_,hn',?_⟩
    simp only [hyx,if_false];exact ns_uniq hm a ▸ b
   ·exact .inr ⟨k',c,a,b.sameBut hs' (S.cl y c a).1⟩
  ·rw [hs'.1];exact I.zex b z
 ·obtain ⟨v₀,hv₀⟩:=I.cells x c hc
  refine wpAny_storeName_cell S.fn kk hc hv₀ fun h' hc' hs' => ?_
  have hLc:penv.locals ≠ c:=(S.cl x c hc).1.symm
  refine done h' s.toks (Nat.le_refl _) (fun b o _ hb q => hs'.extBut b o (fun z => hb x (z ▸ hc)) q) (let ⟨m,q⟩:=I.ns;⟨m,q.sameBut hs' hLc⟩) (fun y c' hy => ?_) (.inr ⟨kk,c,hc,hc'⟩) (fun y u hyx nm => ?_) (fun b z => ?_)
  ·by_cases hcc:c' = c
   ·subst hcc;exact ⟨_,hc'⟩
   ·obtain ⟨v,q⟩:=I.cells y c' hy;exact ⟨v,q.sameBut hs' hcc⟩
  ·rcases nm with ⟨k',m',a,b⟩ | ⟨k',c',a,b⟩
   ·exact .inl ⟨k',m',a.sameBut hs' hLc,b⟩
   ·exact .inr ⟨k',c',a,b.sameBut hs' fun q => hyx (S.apart y x c (q ▸ a) hc)⟩
  ·rw [hs'.1];exact I.zex b z
theorem put_val {A:Around} {E:Value → Shared → Prop} {x:PySem.Str} {v:Value} {i:Nat} {p:PV} {Q:Unit → Shared → Prop} (S:Stat penv G R N) (hN:e.length = N) (hR:R.lookup x = some i)
  (I:Inv w penv R Z O e s.heap s.toks) (hr:Rep w s.heap (XS Z penv O e) s.toks v p)
  (hQ:∀ h' tk,Inv w penv R Z O (setS e i (.val p)) h' tk → (∀ b o,b ≠ penv.locals → (∀ y,penv.cells.lookup y ≠ some b) → s.heap.get? b = some o → h'.get? b = some o) → (∃ m,h'.Ns penv.locals m) → s.toks ≤ tk → Q () { s with heap:=h',toks:=tk }) :
  wpAny (model pw w) A (storeName penv x v) Q E s :=
 put_slot S hN hR I (fun _ _ => rfl) (fun _ z => z) (fun b z => xs_le Le.froz b z) (hr.le Le.froz) (fun ho => by cases ho) hQ
end
end
section
theorem small_iff {i:Int}:small i = true ↔ -1099511627776 < i ∧ i < 1099511627776:=by simp [small]
theorem small_bits {i:Int} (h:small i = true):Builtin.Int.intBits i ≤ 64:=by
 obtain ⟨a,b⟩:=small_iff.mp h
 unfold Builtin.Int.intBits
 split
 ·exact Nat.zero_le _
 ·rename_i hz
  have hn:i.natAbs ≠ 0:=by simpa using hz
  have:i.natAbs.log2 < 41:=(Nat.log2_lt hn).mpr (by lia)
  lia
theorem small_pylong {a b:Int} (h:small b = true):Builtin.divisionGoesByPylong a b = false:=by
 obtain ⟨x,y⟩:=small_iff.mp h
 unfold Builtin.divisionGoesByPylong
 dsimp only
 by_cases hz:(b == 0) = true
 ·simp [hz]
 ·have hn:b.natAbs ≠ 0:=by simpa using hz
  have:b.natAbs.log2 < 41:=(Nat.log2_lt hn).mpr (by lia)
  have h2:¬ (b.natAbs.log2 / 30 + 1 > 300):=by lia
  simp only [hz,Bool.false_eq_true,if_false,decide_eq_false h2,Bool.false_and]
theorem lim_iff {n:Nat}:lim n = true ↔ n < 100000:=by simp [lim,Nat.blt_eq]
theorem k_append (a b:List Nat):k a ++ k b = k (a ++ b):=by
 apply Str.ext'
 rw [Str.cps_append]
 simp
theorem k_length (a:List Nat):(k a).length = a.length:=by simp [Str.length]
theorem empty_get (b:Addr):({}:Heap).get? b = none:=by simp [Heap.get?]
theorem Fr.empty {h:Heap} {L:Addr} {m:PySem.Str → Option Value} (hn:h.Ns L m):Fr {} L h m:=⟨hn,fun b o e => (by rw [empty_get] at e;cases e),Nat.zero_le _⟩
theorem news_all (L:Addr) (h:Heap):∃ news,News {} L h news ∧ ∀ b o,b ≠ L → h.get? b = some o → (b,o) ∈ news:=by
 refine ⟨(List.range h.objs.size).filterMap fun b => if b = L then none else (h.get? b).map (b,·),fun p hp => ?_,fun b o hb e => ?_⟩
 ·obtain ⟨b,_,q⟩:=List.mem_filterMap.mp hp
  split at q
  ·exact (nS q).elim
  ·rename_i hb
   obtain ⟨o,e,rfl⟩:=Option.map_eq_some_iff.mp q
   exact ⟨e,hb,empty_get b⟩
 ·refine List.mem_filterMap.mpr ⟨b,List.mem_range.mpr (Heap.lt_size e),?_⟩
  rw [if_neg hb,e];rfl
theorem ext_news {L:Addr} {s:Shared} {h':Heap} {m:PySem.Str → Option Value} {news:List (Addr × Obj)} {p:Addr × Obj} {tk:Nat} (hm:s.heap.Ns L m) (hall:∀ b o,b ≠ L → s.heap.get? b = some o → (b,o) ∈ news)
  (N:News {} L h' (p :: news)) (F:Fr {} L h' m) (ht:s.toks ≤ tk):Ext L s { s with heap:=h',toks:=tk } :=
 ⟨fun b o hb e => (N _ (.tail _ (hall b o hb e))).1,fun m' q => ns_uniq hm q ▸ F.ns,fun _ _ e => e,fun _ _ e => .inl e,rfl,ht⟩
theorem pow_ok {i j:Int} (a:0 ≤ i) (b:i ≤ 16) (c:0 ≤ j) (d:j ≤ 16):((Builtin.Int.intBits i:Nat):Int) * j ≤ 2 ^ 27:=by
 have hs:Builtin.Int.intBits i ≤ 64:=small_bits (small_iff.mpr ⟨by lia,by lia⟩)
 have:((Builtin.Int.intBits i:Nat):Int) ≤ 64:=by exact_mod_cast hs
 calc ((Builtin.Int.intBits i:Nat):Int) * j ≤ (64:Int) * 16:=Int.mul_le_mul this d c (by decide)
  _ ≤ 2 ^ 27:=by decide
theorem fOf_some {i:Int} {u:UInt64} (h:fOf i = some u):0 ≤ i ∧ i < 16 ∧ u = Float64.ofInt i:=by
 unfold fOf at h
 split at h
 ·rename_i q
  simp only [Bool.and_eq_true,decide_eq_true_eq] at q
  cases h
  exact ⟨q.1,q.2,rfl⟩
 ·exact (nS h).elim
theorem fOf_fin {i:Int} (h0:0 ≤ i) (h1:i < 16):¬ Float64.isInf (Float64.ofInt i) = true:=by
 have:∀ n:Fin 16,(Float64.isInf (Float64.ofInt (n.val:Int))) = false:=by decide +kernel
 have:=this ⟨i.toNat,by lia⟩
 rw [show ((i.toNat:Nat):Int) = i by lia] at this
 rw [this];exact Bool.false_ne_true
section
variable {w:World} {A:Around} {E:Value → Shared → Prop} {L:Addr} {X:Addr → Prop} {s:Shared}
noncomputable def Gives (w:World) (A:Around) (L:Addr) (X:Addr → Prop) (s:Shared) (t:Sem Value) (p:PV):Prop :=
 ∀ (Q:Value → Shared → Prop) (E:Value → Shared → Prop),(∀ s' v,Ext L s s' → Rep w s'.heap X s'.toks v p → Q v s') → wpAny (model pw w) A t Q E s
theorem Gives.t {t:Sem Value} {v:Value} {z:PV} (h:∀ Q E,Q v { s with toks:=s.toks + 1 } → wpAny (model pw w) A t Q E s) (r:Rep w s.heap X (s.toks + 1) v z):Gives w A L X s t z :=
 fun Q E hQ => h Q E (hQ _ _ (Ext.toks L s (s.toks + 1) (Nat.le_succ _)) r)
noncomputable def boOf:Bop → Operator
 | .add => .Add | .sub => .Sub | .mul => .Mult | .fdiv => .FloorDiv | .mod => .Mod | .pow => .Pow | .div => .Div
theorem if_some {α:Type} {c:Prop} [Decidable c] {v z:α} (h:(if c then some v else none) = some z):c ∧ v = z:=by
 by_cases q:c
 ·rw [if_pos q] at h;exact ⟨q,Option.some.inj h⟩
 ·rw [if_neg q] at h;exact (nS h).elim
theorem if_then {α:Type} {c:Prop} [Decidable c] {v:Option α} {z:α} (h:(if c then v else none) = some z):c ∧ v = some z:=by
 by_cases q:c
 ·rw [if_pos q] at h;exact ⟨q,h⟩
 ·rw [if_neg q] at h;exact (nS h).elim
theorem ifn_some {α:Type} {c:Prop} [Decidable c] {v z:α} (h:(if c then none else some v) = some z):¬ c ∧ v = z:=by
 by_cases q:c
 ·rw [if_pos q] at h;exact (nS h).elim
 ·rw [if_neg q] at h;exact ⟨q,Option.some.inj h⟩
theorem and_2 {a b:Bool} (h:(a && b) = true):a = true ∧ b = true:=Bool.and_eq_true_iff.mp h
theorem and_3 {a b c:Bool} (h:(a && b && c) = true):a = true ∧ b = true ∧ c = true:=⟨(and_2 (and_2 h).1).1,(and_2 (and_2 h).1).2,(and_2 h).2⟩
theorem and_4 {a b c d:Bool} (h:(a && b && c && d) = true):a = true ∧ b = true ∧ c = true ∧ d = true:=⟨(and_3 (and_2 h).1).1,(and_3 (and_2 h).1).2.1,(and_3 (and_2 h).1).2.2,(and_2 h).2⟩
theorem and_5 {a b c d e:Bool} (h:(a && b && c && d && e) = true):a = true ∧ b = true ∧ c = true ∧ d = true ∧ e = true:=⟨(and_4 (and_2 h).1).1,(and_4 (and_2 h).1).2.1,(and_4 (and_2 h).1).2.2.1,(and_4 (and_2 h).1).2.2.2,(and_2 h).2⟩
theorem Rep.two_int {a b:Value} {i j:Int} {n:Nat} (ra:Rep w s.heap X n a (.int i)) (rb:Rep w s.heap X n b (.int j)):∃ t u,a = .int i t ∧ b = .int j u:=let ⟨t,e⟩:=ra.intE;let ⟨u,f⟩:=rb.intE;⟨t,u,e,f⟩
theorem Rep.two_flt {a b:Value} {i j:UInt64} {n:Nat} (ra:Rep w s.heap X n a (.flt i)) (rb:Rep w s.heap X n b (.flt j)):∃ t u,a = .float i t ∧ b = .float j u:=let ⟨t,e,_⟩:=ra.fltE;let ⟨u,f,_⟩:=rb.fltE;⟨t,u,e,f⟩
theorem snd_fi {a b:Value} {op:Bop} {i:UInt64} {j:Int} {f:UInt64 → UInt64} {z:PV} (ra:Rep w s.heap X s.toks a (.flt i)) (rb:Rep w s.heap X s.toks b (.int j)) (hu:∃ u,fOf j = some u ∧ z = .flt (f u)) (hf:∀ u,Rep w s.heap X (s.toks + 1) (.float u s.toks) (.flt u))
  (h:∀ t u Q E,0 ≤ j → j < 16 → Q (.float (f (Float64.ofInt j)) s.toks) { s with toks:=s.toks + 1 } → wpAny (model pw w) A (binaryOp (boOf op) (.float i t) (.int j u)) Q E s):Gives w A L X s (binaryOp (boOf op) a b) z:=by
 obtain ⟨u,hu,rfl⟩:=hu
 obtain ⟨h0,h1,rfl⟩:=fOf_some hu
 obtain ⟨t,rfl,_⟩:=ra.fltE
 obtain ⟨v,rfl⟩:=rb.intE
 exact Gives.t (fun Q E q => h t v Q E h0 h1 q) (hf _)
theorem snd_adds (hns:∃ m,s.heap.Ns L m) (hLX:X L) (hX:∀ a,X a → a < s.heap.objs.size) {x y:List PV} {a b:Value} (q:lim (x.length + y.length) = true) (ra:Rep w s.heap X s.toks a (.list x)) (rb:Rep w s.heap X s.toks b (.list y)):Gives w A L X s (binaryOp .Add a b) (.list (x ++ y)):=by
 intro Q E hQ
 obtain ⟨a,vs,rfl,ha,hx,hr⟩:=ra.listE
 obtain ⟨b,us,rfl,hb,hy,hq⟩:=rb.listE
 obtain ⟨m,hm⟩:=hns
 obtain ⟨news,N,hall⟩:=news_all L s.heap
 refine add_arrays (Fr.empty hm) N ha hb (fun h' F' N' => hQ _ _ (ext_news hm hall N' F' (Nat.le_refl _)) ?_) ?_
 ·have hk:∀ b o,¬ X b → s.heap.get? b = some o → h'.get? b = some o:=fun b o nx e => (N' _ (.tail _ (hall b o (fun q => nx (q ▸ hLX)) e))).1
  refine .list ⟨_,(N' _ (.head _)).1,rfl,_,rfl⟩ (fun z => ?_) ?_
  ·exact absurd (hX _ z) (Nat.lt_irrefl _)
  ·exact (Reps.mono hk (fun _ y => .inl y) (Nat.le_refl _) hr).append (Reps.mono hk (fun _ y => .inl y) (Nat.le_refl _) hq)
 ·have:=lim_iff.mp q
  have e1:=hr.length
  have e2:=hq.length
  rw [List.size_toArray,List.size_toArray,show sizeLine = 16777216 from rfl];lia
theorem nn {α:Type} {z:α} (h:(none:Option α) = some z):False:=nomatch h
theorem snd_binop (hA:A.handled = none) (hpos:1 ≤ s.toks) (hLX:X L) (hX:∀ a,X a → a < s.heap.objs.size) (hns:∃ m,s.heap.Ns L m) {op:Bop} {x y z:PV} {a b:Value}
  (h:binop op x y = some z) (ra:Rep w s.heap X s.toks a x) (rb:Rep w s.heap X s.toks b y):Gives w A L X s (binaryOp (boOf op) a b) z:=by
 have hf:∀ u,Rep w s.heap X (s.toks + 1) (.float u s.toks) (.flt u):=fun u => .flt _ _ (Nat.ne_of_gt hpos) (Nat.lt_succ_self _)
 cases op
 ·cases x <;> first | exact (nn h).elim | skip
  ·cases y <;> first | exact (nn h).elim | skip
   obtain ⟨_,rfl⟩:=if_some h
   obtain ⟨t,u,rfl,rfl⟩:=ra.two_int rb
   exact Gives.t (fun Q E q => add_int q) (.int _ _)
  ·cases y <;> first | exact (nn h).elim | skip
   obtain rfl:=Option.some.inj h
   obtain ⟨t,u,rfl,rfl⟩:=ra.two_flt rb
   exact Gives.t (fun Q E q => add_float q) (hf _)
  ·cases y <;> first | exact (nn h).elim | skip
   obtain ⟨q,rfl⟩:=if_some h
   obtain ⟨t,rfl⟩:=ra.strE
   obtain ⟨u,rfl⟩:=rb.strE
   intro Q E hQ
   refine wpAny_with_toks (Nat.le_refl _) (add_str (fun t' tk ht => hQ _ _ (Ext.toks L s tk ht) ?_) ?_)
   ·rw [k_append];exact .str _ _
   ·have:=lim_iff.mp q
    rw [k_length,k_length,show sizeLine = 16777216 from rfl];lia
  ·cases y <;> first | exact (nn h).elim | skip
   obtain ⟨q,rfl⟩:=if_some h
   exact snd_adds hns hLX hX q ra rb
 ·cases x <;> first | exact (nn h).elim | skip
  ·cases y <;> first | exact (nn h).elim | skip
   obtain ⟨_,rfl⟩:=if_some h
   obtain ⟨t,u,rfl,rfl⟩:=ra.two_int rb
   exact Gives.t (fun Q E q => sub_int q) (.int _ _)
  ·cases y <;> first | exact (nn h).elim | skip
   ·obtain ⟨u,hu,h⟩:=Option.bind_eq_some_iff.mp h
    exact snd_fi ra rb ⟨u,hu,(Option.some.inj h).symm⟩ hf fun _ _ Q E h0 h1 q => AutoFloatOps.sub_fi_1 (fOf_fin h0 h1) q
   ·obtain rfl:=Option.some.inj h
    obtain ⟨t,u,rfl,rfl⟩:=ra.two_flt rb
    exact Gives.t (fun Q E q => sub_float q) (hf _)
 ·cases x <;> first | exact (nn h).elim | skip
  ·cases y <;> first | exact (nn h).elim | skip
   obtain ⟨q,rfl⟩:=if_some h
   obtain ⟨t,u,rfl,rfl⟩:=ra.two_int rb
   exact Gives.t (fun Q E p => mul_int p (IntMulOk.of_left (small_bits (and_2 q).1))) (.int _ _)
  ·cases y <;> first | exact (nn h).elim | skip
   ·obtain ⟨u,hu,h⟩:=Option.bind_eq_some_iff.mp h
    exact snd_fi ra rb ⟨u,hu,(Option.some.inj h).symm⟩ hf fun _ _ Q E h0 h1 q => AutoFloatOps.mul_fi_1 (fOf_fin h0 h1) q
   ·obtain rfl:=Option.some.inj h
    obtain ⟨t,u,rfl,rfl⟩:=ra.two_flt rb
    exact Gives.t (fun Q E q => mul_float q) (hf _)
 ·cases x <;> first | exact (nn h).elim | skip
  cases y <;> first | exact (nn h).elim | skip
  obtain ⟨q,rfl⟩:=if_some h
  obtain ⟨_,q2,q3⟩:=and_3 q
  obtain ⟨t,u,rfl,rfl⟩:=ra.two_int rb
  exact Gives.t (fun Q E p => floordiv_int (Int.ne_of_gt (of_decide_eq_true q3)) p (.inl (small_pylong q2))) (.int _ _)
 ·cases x <;> first | exact (nn h).elim | skip
  ·cases y <;> first | exact (nn h).elim | skip
   obtain ⟨q,rfl⟩:=if_some h
   obtain ⟨t,u,rfl,rfl⟩:=ra.two_int rb
   exact Gives.t (fun Q E p => mod_int' (Int.ne_of_gt (of_decide_eq_true q)) p) (.int _ _)
  ·cases y <;> first | exact (nn h).elim | skip
   obtain ⟨q,rfl⟩:=ifn_some h
   obtain ⟨t,u,rfl,rfl⟩:=ra.two_flt rb
   exact Gives.t (fun Q E p => PySem.Flt.mod_ff hA (fun e => absurd e q) fun _ => p) (hf _)
 ·cases x <;> first | exact (nn h).elim | skip
  cases y <;> first | exact (nn h).elim | skip
  obtain ⟨q,rfl⟩:=if_some h
  obtain ⟨q1,q2,q3,q4⟩:=and_4 q
  have q3:=of_decide_eq_true q3
  obtain ⟨t,u,rfl,rfl⟩:=ra.two_int rb
  exact Gives.t (fun Q E p => pow_int q3 (pow_ok (of_decide_eq_true q1) (of_decide_eq_true q2) q3 (of_decide_eq_true q4)) p) (.int _ _)
 ·cases x <;> first | exact (nn h).elim | skip
  ·cases y <;> first | exact (nn h).elim | skip
   obtain ⟨q,rfl⟩:=if_some h
   obtain ⟨q1,q2,q3⟩:=and_3 q
   have q3:=of_decide_eq_true q3
   obtain ⟨s1,s2⟩:=small_iff.mp q1
   obtain ⟨t,u,rfl,rfl⟩:=ra.two_int rb
   exact Gives.t (fun Q E p => PySem.Flt.div_ii_fits hA (Nat.lt_of_lt_of_le (by lia:_ < 2 ^ 40) (Nat.pow_le_pow_right (by decide) (by decide))) (fun e => absurd e (Int.ne_of_gt q3)) fun _ _ => p) (hf _)
  ·cases y <;> first | exact (nn h).elim | skip
   ·obtain ⟨u,hu,h⟩:=Option.bind_eq_some_iff.mp h
    obtain ⟨q,h⟩:=ifn_some h
    obtain ⟨_,_,rfl⟩:=fOf_some hu
    exact snd_fi ra rb ⟨_,hu,h.symm⟩ hf fun _ _ Q E h0 h1 p => AutoFloatOps.truediv_fi_2 (fOf_fin h0 h1) q p
   ·obtain ⟨q,rfl⟩:=ifn_some h
    obtain ⟨t,u,rfl,rfl⟩:=ra.two_flt rb
    exact Gives.t (fun Q E p => truediv_float_or hA (fun e => absurd e q) fun _ => p) (hf _)
end
end
section
section
variable {w:World} {h:Heap}
theorem kf_get {P:Params} {h:Heap} (I:(KF P).In h) {a:Addr} {o:Obj} (e:(KF P).lookup a = some o):h.get? a = some o:=I a o e
noncomputable def chk1 (e:Int × Value):Bool:=(vInt (fun i => if e.1 == hashInt i && b1L.contains i then some () else none) e.2).isSome
noncomputable def b1E (P:Params):List (Int × Value):=match ((TS8 P).get 64) with | some ⟨_,_,.set es _ _,_⟩ => es.toList | _ => []
theorem b1_all (P:Params):(b1E P).all chk1 = true:=by kernel_rfl
noncomputable def b1Ep (P:Params):Nat:=match ((TS8 P).get 64) with | some ⟨_,_,.set _ ep _,_⟩ => ep | _ => 0
noncomputable def b1T (P:Params):SetTable:=match ((TS8 P).get 64) with | some ⟨_,_,.set _ _ t,_⟩ => t | _ => ⟨0,#[],#[],0,false,0,false⟩
theorem b1_obj (P:Params):(KF P).lookup 64 = some ⟨.type "set",none,.set ⟨b1E P⟩ (b1Ep P) (b1T P),#[]⟩:=by kernel_rfl
theorem b1_fits (P:Params):(b1T P).fits 27 = true:=by kernel_rfl
theorem b1_len (P:Params):(b1E P).length = 27:=by kernel_rfl
theorem chk1_inv {x:Int × Value} (h:chk1 x = true):∃ i t,x.2 = .int i t ∧ x.1 = hashInt i ∧ b1L.contains i = true:=by
 obtain ⟨_,h⟩:=Option.isSome_iff_exists.mp h
 obtain ⟨i,t,e,h⟩:=vInt_ h
 obtain ⟨a,b⟩:=and_2 (if_some h).1
 exact ⟨i,t,e,eq_of_beq a,b⟩
noncomputable def isIntV (k:Int) (v:Value):Bool:=(vInt (fun j => if j == k then some () else none) v).isSome
theorem isIntV_ {k:Int} {v:Value} (h:isIntV k v = true):∃ t,v = .int k t:=by
 obtain ⟨_,h⟩:=Option.isSome_iff_exists.mp h
 obtain ⟨i,t,rfl,h⟩:=vInt_ h
 exact ⟨t,eq_of_beq (if_some h).1 ▸ rfl⟩
theorem b1_back (P:Params):b1L.all (fun i => (b1E P).any fun e => isIntV i e.2) = true:=by kernel_rfl
theorem tab_b1 (I:(KF w.params).In h):h.SetOf (intKind pw w) 64 (fun k => b1L.contains k) 27:=by
 refine ⟨_,_,b1Ep w.params,b1T w.params,kf_get I (b1_obj w.params),⟨rfl,rfl,rfl⟩,rfl,fun x hx => ?_,fun k => ⟨fun hk => ?_,?_⟩,?_,?_,b1_len w.params⟩
 ·obtain ⟨i,t,e,h1,_⟩:=chk1_inv (List.all_eq_true.mp (b1_all w.params) x hx)
  exact ⟨⟨i,e ▸ intKind_is pw w i t,h1⟩,by rw [e];rfl⟩
 ·obtain ⟨x,hx,q⟩:=List.any_eq_true.mp (List.all_eq_true.mp (b1_back w.params) k (List.contains_iff_mem.mp hk))
  obtain ⟨t,e⟩:=isIntV_ q
  exact ⟨x,hx,e ▸ intKind_is pw w k t⟩
 ·rintro ⟨x,hx,q⟩
  obtain ⟨i,t,e,_,h2⟩:=chk1_inv (List.all_eq_true.mp (b1_all w.params) x hx)
  rw [e] at q
  obtain rfl:=(intKind pw w).inj _ _ _ q (intKind_is pw w i t)
  exact h2
 ·show (b1E w.params).length < scanBound
  rw [b1_len];decide
 ·show (b1T w.params).fits (b1E w.params).length = true
  rw [b1_len];exact b1_fits _
noncomputable def entT (e:DictEntry):Option (List Nat × Int):=vStr (fun x => vInt (fun i => some (x.cps.toList,i)) e.val) e.key
noncomputable def tokE (P:Params):List DictEntry:=match ((TS8 P).get 121) with | some ⟨_,_,.dict es _,_⟩ => es.toList | _ => []
theorem tok_ents (P:Params):(tokE P).map entT = tokL.map some:=by kernel_rfl
noncomputable def tokEp (P:Params):Nat:=match ((TS8 P).get 121) with | some ⟨_,_,.dict _ n,_⟩ => n | _ => 0
theorem tok_obj (P:Params):(KF P).lookup 121 = some ⟨.type "dict",none,.dict ⟨tokE P⟩ (tokEp P),#[]⟩:=by kernel_rfl
theorem tok_keys (P:Params):KeysLit P (tokE P):=by
 have:(tokE P) = (tokE P):=rfl
 unfold tokE
 repeat' constructor
theorem entT_inv {e:DictEntry} {p:List Nat × Int} (h:entT e = some p):∃ x u t,e.key = .str x u ∧ e.val = .int p.2 t ∧ x.cps.toList = p.1:=by
 obtain ⟨x,u,e1,h⟩:=vStr_ h
 obtain ⟨i,t,e2,h⟩:=vInt_ h
 obtain rfl:=Option.some.inj h
 exact ⟨x,u,t,e1,e2,rfl⟩
theorem lookS_c {x:List Nat} {p:List Nat × Int} {r:List (List Nat × Int)}:lookS x (p :: r) = if decide (p.1 = x) then some p.2 else lookS x r:=rfl
noncomputable def TokGot (x:PySem.Str) (es:List DictEntry) (l:List (List Nat × Int)):Prop :=
 match lookS x.cps.toList l with | some i => ∃ t,(es.find? fun d => Value.isStrOf x d.key).map (·.val) = some (.int i t) | none => (es.find? fun d => Value.isStrOf x d.key).map (·.val) = none
theorem find_tok (x:PySem.Str) (es:List DictEntry) (l:List (List Nat × Int)):es.map entT = l.map some →
  (match lookS x.cps.toList l with | some i => ∃ t,(es.find? fun d => Value.isStrOf x d.key).map (·.val) = some (.int i t) | none => (es.find? fun d => Value.isStrOf x d.key).map (·.val) = none):=by
 show _ → TokGot x es l
 induction l generalizing es with
 | nil => cases es with
  | nil => exact fun _ => rfl
  | cons => exact nofun
 | cons p l ih => cases es with
  | nil => exact nofun
  | cons e es =>
   intro hh
   injection hh with he hr
   obtain ⟨z,u,t,hk,hv,hp⟩:=entT_inv he
   unfold TokGot
   rw [lookS_c]
   rw [List.find?_cons,hk,← hp]
   by_cases hz:z.cps.toList = x.cps.toList
   ·obtain rfl:z = x:=Str.ext' (Array.toList_inj.mp hz)
    rw [if_pos (decide_eq_true rfl),show Value.isStrOf z (.str z u) = true from beq_self_eq_true z]
    exact ⟨t,congrArg some hv⟩
   ·rw [if_neg (fun q => hz (of_decide_eq_true q)),show Value.isStrOf x (.str z u) = false from beq_eq_false_iff_ne.mpr fun e => hz (by rw [e])]
    exact ih es hr
end
end
section
section
variable {w:World} {h:Heap}
noncomputable def entB (e:DictEntry):Option (Int × List Nat):=vInt (fun i => vStr (fun x => if e.hash == hashInt i then some (i,x.cps.toList) else none) e.val) e.key
noncomputable def b3E (P:Params):List DictEntry:=match ((TS8 P).get 75) with | some ⟨_,_,.dict es _,_⟩ => es.toList | _ => []
noncomputable def b3Ep (P:Params):Nat:=match ((TS8 P).get 75) with | some ⟨_,_,.dict _ n,_⟩ => n | _ => 0
theorem b3_ents (P:Params):(b3E P).map entB = b3L.map some:=by kernel_rfl
theorem b3_obj (P:Params):(KF P).lookup 75 = some ⟨.type "dict",none,.dict ⟨b3E P⟩ (b3Ep P),#[]⟩:=by kernel_rfl
theorem entB_inv {e:DictEntry} {p:Int × List Nat} (h:entB e = some p):∃ u x t,e.key = .int p.1 u ∧ e.val = .str x t ∧ x.cps.toList = p.2 ∧ e.hash = hashInt p.1:=by
 obtain ⟨i,u,e1,h⟩:=vInt_ h
 obtain ⟨x,t,e2,h⟩:=vStr_ h
 obtain ⟨q,rfl⟩:=if_some h
 exact ⟨u,x,t,e1,e2,rfl,eq_of_beq q⟩
noncomputable def B3Got (k:Int) (es:List DictEntry) (l:List (Int × List Nat)):Prop :=
 match lookB k l with | some x => ∃ t,(es.find? fun d => Value.isInt k d.key).map (·.val) = some (.str (Mine.k x) t) | none => (es.find? fun d => Value.isInt k d.key).map (·.val) = none
theorem find_b3 (k:Int) (es:List DictEntry) (l:List (Int × List Nat)):es.map entB = l.map some →
  (match lookB k l with | some x => ∃ t,(es.find? fun d => Value.isInt k d.key).map (·.val) = some (.str (Mine.k x) t) | none => (es.find? fun d => Value.isInt k d.key).map (·.val) = none):=by
 show _ → B3Got k es l
 induction l generalizing es with
 | nil => cases es with
  | nil => exact fun _ => rfl
  | cons => exact nofun
 | cons p l ih => cases es with
  | nil => exact nofun
  | cons e es =>
   intro hh
   injection hh with he hr
   obtain ⟨u,x,t,hk,hv,hp,_⟩:=entB_inv he
   unfold B3Got
   rw [show lookB k (p :: l) = if decide (p.1 = k) then some p.2 else lookB k l from rfl]
   rw [List.find?_cons,hk]
   by_cases hz:p.1 = k
   ·rw [if_pos (decide_eq_true hz),show Value.isInt k (.int p.1 u) = true from beq_iff_eq.mpr hz]
    exact ⟨t,by rw [← hp];exact congrArg some hv⟩
   ·rw [if_neg (fun q => hz (of_decide_eq_true q)),show Value.isInt k (.int p.1 u) = false from beq_eq_false_iff_ne.mpr hz]
    exact ih es hr
theorem keys_b3 (es:List DictEntry) (l:List (Int × List Nat)) (hh:es.map entB = l.map some) (e:DictEntry) (m:e ∈ es):∃ k,Value.isInt k e.key = true ∧ e.hash = hashInt k:=by
 obtain ⟨p,_,hp⟩:=List.mem_map.mp (hh ▸ List.mem_map_of_mem (f:=entB) m)
 obtain ⟨u,x,t,hk,_,_,h⟩:=entB_inv hp.symm
 exact ⟨p.1,by rw [hk];exact beq_self_eq_true p.1,h⟩
theorem tab_b3 (I:(KF w.params).In h):h.MapOf (intKind pw w) 75 (fun k => ((b3E w.params).find? fun d => Value.isInt k d.key).map (·.val)) :=
 ⟨_,⟨b3E w.params⟩,b3Ep w.params,kf_get I (b3_obj w.params),⟨rfl,rfl,rfl⟩,rfl,fun e he => keys_b3 _ _ (b3_ents w.params) e (by simpa using he),fun k => by
  show findBy Value.isInt ⟨b3E w.params⟩ k = _
  unfold findBy
  rw [List.find?_toArray]⟩
theorem tab_tok (I:(KF w.params).In h):h.MapOf (strKind pw w) 121 (fun k => ((tokE w.params).find? fun d => Value.isStrOf k d.key).map (·.val)):=by
 have:=mapOf_K (prog:=pw) (w:=w) I (tok_obj w.params) (tok_keys w.params)
 simpa [findBy,List.find?_toArray] using this
noncomputable def nsE (P:Params) (a:Addr):List DictEntry:=match ((TS8 P).get a) with | some ⟨_,_,.dict es _,_⟩ => es.toList | _ => []
noncomputable def nsO (P:Params) (a:Addr):Obj:=((TS8 P).get a).getD default
noncomputable def strKeys (es:List DictEntry):Bool:=es.all fun e => match e.key with | .str _ _ => true | _ => false
noncomputable def nsAt (P:Params) (a:Addr) (x:PySem.Str):Option Value:=((nsE P a).find? fun e => e.key.isStr x).map (·.val)
noncomputable def nsOk (P:Params) (a:Addr):Bool:=strKeys (nsE P a) && match nsO P a with | ⟨_,_,.dict _ _,_⟩ => true | _ => false
theorem nsOk1 (P:Params):nsOk P mainGlobals = true:=by kernel_rfl
theorem nsOk2 (P:Params):nsOk P builtinsNs = true:=by kernel_rfl
theorem nsOk3 (P:Params):nsOk P cStatics = true:=by kernel_rfl
theorem kf_some {P:Params} {a:Addr} (ha:a < 188):(KF P).lookup a = some (nsO P a):=by
 have:∀ (l:List Nat),a ∈ l → (l.map fun i => (i,((TS8 P).get i).getD default)).lookup a = some (nsO P a):=by
  intro l
  induction l with
  | nil => intro h;cases h
  | cons b l ih =>
   intro h
   rw [List.map_cons,List.lookup_cons]
   by_cases q:a = b
   ·subst q;rw [beq_self_eq_true];rfl
   ·rw [beq_eq_false_iff_ne.mpr q];exact ih ((List.mem_cons.mp h).resolve_left q)
 exact this _ (List.mem_range.mpr ha)
theorem ns_of (I:(KF w.params).In h) {a:Addr} (ha:a < 188) (ok:nsOk w.params a = true):h.Ns a (nsAt w.params a):=by
 have e:=kf_get I (kf_some ha)
 unfold nsOk at ok
 rw [Bool.and_eq_true] at ok
 obtain ⟨o1,o2⟩:=ok
 cases ho:nsO w.params a with
 | mk c d dt sl =>
  rw [ho] at e o2
  cases dt with
  | dict es n =>
   have hes:nsE w.params a = es.toList:=by
    unfold nsO at ho
    unfold nsE
    cases hg:(TS8 w.params).get a with
    | none => rw [hg] at ho;cases ho
    | some q => rw [hg] at ho;obtain rfl:q = _:=ho;rfl
   rw [hes] at o1
   refine ⟨_,es,n,e,rfl,fun x hx => ?_,fun x => ?_⟩
   ·have:=List.all_eq_true.mp o1 x (Array.mem_toList_iff.mpr hx)
    obtain ⟨hh,key,val⟩:=x
    cases key with
    | str y t => exact ⟨y,t,rfl⟩
    | _ => simp at this
   ·show nsFind es x = ((nsE w.params a).find? _).map _
    rw [hes]
    unfold nsFind findBy
    obtain ⟨l⟩:=es
    rw [List.find?_toArray]
  | _ => simp at o2
theorem nolimit (I:(KF w.params).In h):h.NoLimit:=⟨_,ns_of I (by decide) (nsOk3 _),by kernel_rfl⟩
theorem nobook (I:(KF w.params).In h):NoneBooked h:=⟨_,ns_of I (by decide) (nsOk3 _),by kernel_rfl⟩
end
end
section
section
open PySem.SeqAt
variable {w:World} {A:Around} {E:Value → Shared → Prop} {L:Addr} {X:Addr → Prop} {s:Shared} {n:Nat}
theorem wpAny_isSame_pure {a b:Value} {r:Bool} {Q:Bool → Shared → Prop} (e:isSame a b = pure r) (h:Q r s):wpAny (model pw w) A (isSame a b) Q E s:=by rw [e];exact wpAny_pure h
theorem ints_of {h:Heap} {l:List PV}:∀ {vs:List Value} {ns:List Int},Reps w h X n vs l → intsOf l = some ns → IntsAre vs ns:=by
 induction l with
 | nil => intro vs ns r e;cases e;obtain rfl:=r.nilE;exact .nil
 | cons p l ih =>
  intro vs ns r e
  obtain ⟨v,us,rfl,a,b⟩:=r.consE
  cases p <;> first | (cases e;done) | skip
  obtain ⟨ns,e',rfl⟩:=Option.map_eq_some_iff.mp e
  obtain ⟨t,rfl⟩:=a.intE
  exact .cons _ t (ih b e')
theorem min_self' {a b:Nat} (h:a = b):min a b = a:=by lia
noncomputable def PvI (m:Nat) (p q:PV) (b:Bool):Prop:=(∃ i j,p = .int i ∧ q = .int j ∧ b = decide (i = j)) ∨ (∃ i j,p = .str i ∧ q = .str j ∧ b = decide (i = j)) ∨ ∃ m' l r,m = m' + 1 ∧ p = .tup l ∧ q = .tup r ∧ pvEqs m' l r = some b
theorem pvEq_inv {m:Nat} {p q:PV} {b:Bool} (h:pvEq m p q = some b):PvI m p q b:=by
 cases m with
 | zero => cases p <;> first | exact (nn h).elim | (cases q <;> first | exact (nn h).elim | exact .inl ⟨_,_,rfl,rfl,(Option.some.inj h).symm⟩ | exact .inr (.inl ⟨_,_,rfl,rfl,(Option.some.inj h).symm⟩))
 | succ m => cases p <;> first | exact (nn h).elim | (cases q <;> first | exact (nn h).elim | exact .inl ⟨_,_,rfl,rfl,(Option.some.inj h).symm⟩ | exact .inr (.inl ⟨_,_,rfl,rfl,(Option.some.inj h).symm⟩) | exact .inr (.inr ⟨_,_,_,rfl,rfl,rfl,h⟩))
theorem pes_nil (n:Nat):pvEqs n [] [] = some true:=by cases n <;> rfl
theorem pes_c {n:Nat} {a b:PV} {l r:List PV}:pvEqs n (a :: l) (b :: r) = (match pvEq n a b,pvEqs n l r with | some x,some y => some (x && y) | _,_ => none):=by cases n <;> rfl
noncomputable def PvsI (m:Nat) (l r:List PV) (c:Bool):Prop:=(l = [] ∧ r = [] ∧ c = true) ∨ ∃ a l' b r' x y,l = a :: l' ∧ r = b :: r' ∧ pvEq m a b = some x ∧ pvEqs m l' r' = some y ∧ c = (x && y)
theorem pvEqs_inv {m:Nat} {l r:List PV} {c:Bool} (h:pvEqs m l r = some c):PvsI m l r c:=by
 cases l with
 | nil => cases r with
  | nil => rw [pes_nil] at h;exact .inl ⟨rfl,rfl,(Option.some.inj h).symm⟩
  | cons => cases m <;> exact (nn h).elim
 | cons a l => cases r with
  | nil => cases m <;> exact (nn h).elim
  | cons b r =>
   rw [pes_c] at h
   cases h1:pvEq m a b with
   | none => rw [h1] at h;exact (nn h).elim
   | some x => cases h2:pvEqs m l r with
    | none => rw [h1,h2] at h;exact (nn h).elim
    | some y => rw [h1,h2] at h;exact .inr ⟨_,_,_,_,_,_,rfl,rfl,h1,h2,(Option.some.inj h).symm⟩
noncomputable def AllAt (P:Value → Value → Bool → Prop) (vs us:List Value) (c:Bool):Prop:=vs.length = us.length ∧ ∃ e:Nat → Bool,(∀ j (h1:j < vs.length) (h2:j < us.length),P vs[j] us[j] (e j)) ∧ (List.range vs.length).all e = c
theorem AllAt.nil {P:Value → Value → Bool → Prop}:AllAt P [] [] true:=⟨rfl,fun _ => true,fun j h1 => absurd h1 (Nat.not_lt_zero j),rfl⟩
theorem AllAt.cons {P:Value → Value → Bool → Prop} {v u:Value} {vs us:List Value} {x y:Bool} (h:P v u x) (r:AllAt P vs us y):AllAt P (v :: vs) (u :: us) (x && y):=by
 obtain ⟨hl,e,he,hall⟩:=r
 refine ⟨congrArg (· + 1) hl,fun j => match j with | 0 => x | j + 1 => e j,fun j => ?_,?_⟩
 ·cases j with
  | zero => exact fun _ _ => h
  | succ j => exact fun h1 h2 => he j (Nat.lt_of_succ_lt_succ h1) (Nat.lt_of_succ_lt_succ h2)
 ·rw [List.length_cons,List.range_succ_eq_map,List.all_cons,List.all_map,← hall];rfl
theorem eqAts {m:Nat} {h:Heap} {P:Value → Value → Bool → Prop} (hP:∀ v u p q x,Rep w h X n v p → Rep w h X n u q → pvEq m p q = some x → P v u x) {l:List PV}:∀ {vs us:List Value} {r:List PV} {c:Bool},
  Reps w h X n vs l → Reps w h X n us r → pvEqs m l r = some c → AllAt P vs us c:=by
 induction l with
 | nil =>
  intro vs us r c ra rb hc
  rcases pvEqs_inv hc with ⟨_,rfl,rfl⟩ | ⟨_,_,_,_,_,_,e,_⟩
  ·obtain rfl:=ra.nilE
   obtain rfl:=rb.nilE
   exact .nil
  ·cases e
 | cons p l ih =>
  intro vs us r c ra rb hc
  rcases pvEqs_inv hc with ⟨e,_⟩ | ⟨_,_,q,r,x,y,e,rfl,hx,hy,rfl⟩
  ·cases e
  ·cases e
   obtain ⟨v,vs,rfl,a,b⟩:=ra.consE
   obtain ⟨u,us,rfl,a',b'⟩:=rb.consE
   exact .cons (hP _ _ _ _ _ a a' hx) (ih b b' hy)
theorem tup_fun {h:Heap} {a:Addr} {vs us:List Value} (ha:h.IsTuple a (List.toArray vs)) (hb:h.IsTuple a (List.toArray us)):vs = us:=by
 obtain ⟨o,e1,_,k,e2⟩:=ha
 obtain ⟨o',e1',_,k',e2'⟩:=hb
 cases e1.symm.trans e1'
 injection e2.symm.trans e2' with q1
 exact congrArg Array.toList q1
theorem reps_step {h:Heap} {m:Nat} (ih:∀ m',m = m' + 1 → ∀ {v:Value} {p q:PV} {b:Bool},Rep w h X n v p → Rep w h X n v q → pvEq m' p q = some b → b = true) {v:Value} {p q:PV} {b:Bool} (ra:Rep w h X n v p) (rb:Rep w h X n v q) (e:pvEq m p q = some b):b = true:=by
 rcases pvEq_inv e with ⟨i,j,rfl,rfl,rfl⟩ | ⟨i,j,rfl,rfl,rfl⟩ | ⟨m',l,r,hm,rfl,rfl,e'⟩
 ·obtain ⟨t,rfl⟩:=ra.intE
  obtain ⟨u,e⟩:=rb.intE
  cases e;exact decide_eq_true rfl
 ·obtain ⟨t,rfl⟩:=ra.strE
  obtain ⟨u,e⟩:=rb.strE
  cases e;exact decide_eq_true rfl
 ·obtain ⟨a,vs,rfl,ha,hx,hr⟩:=ra.tupE
  obtain ⟨_,us,e1,hb,_,hq⟩:=rb.tupE
  cases e1
  obtain rfl:=tup_fun ha hb
  obtain ⟨_,e,he,hall⟩:=eqAts (P:=fun v u x => v = u → x = true) (fun v u p q x r1 r2 hx huv => ih m' hm r1 (huv ▸ r2) hx) hr hq e'
  rw [← hall,List.all_eq_true]
  exact fun j hj => he j (List.mem_range.mp hj) (List.mem_range.mp hj) rfl
theorem reps_fun {h:Heap}:∀ (m:Nat) {v:Value} {p q:PV} {b:Bool},Rep w h X n v p → Rep w h X n v q → pvEq m p q = some b → b = true:=fun m => by
 induction m with
 | zero => exact reps_step fun _ h => absurd h (Nat.succ_ne_zero _).symm
 | succ m ih => exact reps_step fun m' h => Nat.succ.inj h ▸ ih
theorem int_beq (a b:Int):decide (a = b) = (a == b):=by rw [Bool.eq_iff_iff];simp
theorem nats_beq (a b:List Nat):decide (a = b) = (a == b):=by rw [Bool.eq_iff_iff];simp
theorem k_beq (x y:List Nat):decide (x = y) = (k x == k y):=by
 rw [Bool.eq_iff_iff,decide_eq_true_iff,beq_iff_eq];constructor
 ·rintro rfl;rfl
 ·intro q;simpa [Mine.k] using q
theorem tuple_b {vs us:List Value} {f:Nat → Bool} {c:Bool} (hlen:vs.length = us.length) (hall:(List.range vs.length).all f = c):((List.range (min vs.toArray.size us.toArray.size)).all f && (vs.toArray.size == us.toArray.size)) = c:=by
 show ((List.range (min vs.length us.length)).all f && (vs.length == us.length)) = c
 rw [← hlen,Nat.min_self,hall,beq_self_eq_true,Bool.and_true]
theorem eqAt_step {m:Nat} (ih:∀ m',m = m' + 1 → ∀ {A:Around} {v u:Value} {p q:PV} {b:Bool},A.units + m' < cLine → Rep w s.heap X n v p → Rep w s.heap X n u q → pvEq m' p q = some b → EqAt A s v u b)
  {A:Around} {v u:Value} {p q:PV} {b:Bool} (hu:A.units + m < cLine) (ra:Rep w s.heap X n v p) (rb:Rep w s.heap X n u q) (e:pvEq m p q = some b):EqAt A s v u b:=by
 rcases pvEq_inv e with ⟨i,j,rfl,rfl,rfl⟩ | ⟨i,j,rfl,rfl,rfl⟩ | ⟨m',l,r,hm,rfl,rfl,e'⟩
 ·obtain ⟨t,u,rfl,rfl⟩:=ra.two_int rb
  exact EqAt.int_int _ _ _ _
 ·obtain ⟨t,rfl⟩:=ra.strE
  obtain ⟨u,rfl⟩:=rb.strE
  rw [k_beq];exact EqAt.str_str _ _ _ _
 ·obtain ⟨a,vs,rfl,ha,hx,hr⟩:=ra.tupE
  obtain ⟨a',us,rfl,hb,_,hq⟩:=rb.tupE
  by_cases haa:a = a'
  ·subst haa
   rw [reps_fun m ra rb e]
   exact EqAt.same _
  ·subst hm
   obtain ⟨hlen,f,he,hall⟩:=eqAts (P:=fun v u x => EqAt A.in1 s v u x) (fun v u p q x r1 r2 hx => ih m' rfl (A:=A.in1) (by rw [show A.in1.units = A.units + 1 from rfl,Nat.add_assoc,Nat.add_comm 1];exact hu) r1 r2 hx) hr hq e'
   have:=RcAt.tuples (A:=A) (e:=f) ha hb (Nat.lt_of_le_of_lt (Nat.le_add_right _ _) hu) he
   rw [tuple_b hlen hall] at this
   exact EqAt.of_refs haa this
theorem eqAt_pv:∀ (m:Nat) {A:Around} {v u:Value} {p q:PV} {b:Bool},A.units + m < cLine → Rep w s.heap X n v p → Rep w s.heap X n u q → pvEq m p q = some b → EqAt A s v u b:=fun m => by
 induction m with
 | zero => exact eqAt_step fun _ h => absurd h (Nat.succ_ne_zero _).symm
 | succ m ih => exact eqAt_step fun m' h => Nat.succ.inj h ▸ ih
noncomputable def GivesB (w:World) (A:Around) (L:Addr) (s:Shared) (t:Sem Value) (b:Bool):Prop :=
 ∀ (Q:Value → Shared → Prop) (E:Value → Shared → Prop),(∀ s',Ext L s s' → Q (.bool b) s') → wpAny (model pw w) A t Q E s
theorem GivesB.p {t:Sem Value} {b:Bool} (h:∀ Q E,Q (.bool b) s → wpAny (model pw w) A t Q E s):GivesB w A L s t b:=fun Q E hQ => h Q E (hQ _ (Ext.refl L s))
theorem GivesB.q {t:Sem Value} {b:Bool} (h:∀ Q E,Q (.bool b) { s with toks:=s.toks + 1 } → wpAny (model pw w) A t Q E s):GivesB w A L s t b:=fun Q E hQ => h Q E (hQ _ (Ext.toks L s (s.toks + 1) (Nat.le_succ _)))
noncomputable def coOf:Cop → CmpOp
 | .eq => .Eq | .ne => .NotEq | .lt => .Lt | .le => .LtE | .gt => .Gt | .ge => .GtE | .is => .Is | .isNot => .IsNot | .isIn => .In | .notIn => .NotIn
theorem is_of {a b:Value} {r:Bool} (e:isSame a b = pure r):GivesB w A L s (compareOp .Is a b) r:=.p fun _ _ q => wpAny_bind (wpAny_isSame_pure e (wpAny_pure q))
theorem isNot_of {a b:Value} {r:Bool} (e:isSame a b = pure r):GivesB w A L s (compareOp .IsNot a b) (!r):=.p fun _ _ q => wpAny_bind (wpAny_isSame_pure e (wpAny_pure q))
theorem tok_has (P:Params) (l:List Nat):(((tokE P).find? fun d => Value.isStrOf (k l) d.key).map (·.val)).isSome = (lookS l tokL).isSome:=by
 have:=find_tok (k l) _ _ (tok_ents P)
 rw [show (k l).cps.toList = l from rfl] at this
 cases hl:lookS l tokL with
 | none => rw [hl] at this;rw [this];rfl
 | some j => rw [hl] at this;obtain ⟨t',e⟩:=this;rw [e];rfl
theorem eq_nil {x y:List PV} {a b:Value} (hu:A.units < cLine) (he:y.isEmpty = true) (ra:Rep w s.heap X n a (.list x)) (rb:Rep w s.heap X n b (.list y)):GivesB w A L s (compareOp .Eq a b) x.isEmpty:=by
 obtain rfl:=List.isEmpty_iff.mp he
 obtain ⟨a,vs,rfl,ha,hx,hr⟩:=ra.listE
 obtain ⟨b,us,rfl,hb,hy,hq⟩:=rb.listE
 obtain rfl:=hq.nilE
 cases hr with
 | nil => exact .p fun Q E q => eq_listAt (e:=fun _ => true) ha hb rfl hu (fun j h1 => absurd h1 (Nat.not_lt_zero j)) q
 | cons => exact .p fun Q E q => eq_list_lengthsAt ha hb rfl hu q
theorem ne_tups {x y:List PV} {a b:Value} {c:Bool} (hu:A.units + 200 < cLine) (hc:pvEqs 100 x y = some c) (ra:Rep w s.heap X n a (.tup x)) (rb:Rep w s.heap X n b (.tup y)):GivesB w A L s (compareOp .NotEq a b) (!c):=by
 obtain ⟨a,vs,rfl,ha,hx,hr⟩:=ra.tupE
 obtain ⟨b,us,rfl,hb,hy,hq⟩:=rb.tupE
 obtain ⟨hlen,f,he,hall⟩:=eqAts (P:=fun v u x => EqAt A.in1 s v u x) (fun v u p q x r1 r2 hx => eqAt_pv 100 (A:=A.in1) (by show A.units + 1 + 100 < cLine;lia) r1 r2 hx) hr hq hc
 have:=RcNeAt.tuples (A:=A) (e:=f) ha hb (by lia) he
 rw [tuple_b hlen hall] at this
 exact .p fun Q E q => this pw w E Q q
theorem in_one (c:Nat) (l:List Nat) (t u:Tok):GivesB w A L s (compareOp .NotIn (.str (k [c]) t) (.str (k l) u)) (!l.contains c):=by
 refine .p fun Q E q => notIn_str ?_
 have:=StrLaws.found_one (k l) c
 rw [show (⟨#[c]⟩:PySem.Str) = k [c] from rfl] at this
 rw [this]
 rw [show decide (c ∈ (k l).cps.toList) = l.contains c from by rw [Bool.eq_iff_iff,decide_eq_true_iff,List.contains_iff_mem]]
 exact q
theorem snd_cmpop (hu:A.units + 200 < cLine) (I:(KF w.params).In s.heap) {op:Cop} {x y:PV} {r:Bool} {a b:Value}
  (h:cmpop op x y = some r) (ra:Rep w s.heap X s.toks a x) (rb:Rep w s.heap X s.toks b y):GivesB w A L s (compareOp (coOf op) a b) r:=by
 have h1:A.units < cLine:=Nat.lt_of_le_of_lt (Nat.le_add_right _ _) hu
 cases op
 ·cases x <;> first | exact (nn h).elim | skip
  ·cases y <;> first | exact (nn h).elim | skip
   obtain rfl:=Option.some.inj h;obtain ⟨t,u,rfl,rfl⟩:=ra.two_int rb;rw [int_beq];exact .p fun Q E q => eq_int q
  ·cases y <;> first | exact (nn h).elim | skip
   obtain rfl:=Option.some.inj h;obtain ⟨t,u,rfl,rfl⟩:=ra.two_flt rb;exact .p fun Q E q => AutoFloatOps.eq_0 q
  ·cases y <;> first | exact (nn h).elim | skip
   obtain rfl:=Option.some.inj h;obtain ⟨t,rfl⟩:=ra.strE;obtain ⟨u,rfl⟩:=rb.strE;rw [k_beq];exact .p fun Q E q => eq_str q
  ·cases y <;> first | exact (nn h).elim | skip
   obtain ⟨q,rfl⟩:=if_some h;exact eq_nil h1 q ra rb
 ·cases x <;> first | exact (nn h).elim | skip
  ·cases y <;> first | exact (nn h).elim | skip
   obtain rfl:=Option.some.inj h;obtain ⟨t,u,rfl,rfl⟩:=ra.two_int rb;rw [int_beq];exact .p fun Q E q => ne_int q
  ·cases y <;> first | exact (nn h).elim | skip
   obtain ⟨c,hc,rfl⟩:=Option.map_eq_some_iff.mp h;exact ne_tups hu hc ra rb
 ·cases x <;> first | exact (nn h).elim | skip
  cases y <;> first | exact (nn h).elim | skip
  obtain rfl:=Option.some.inj h;obtain ⟨t,u,rfl,rfl⟩:=ra.two_int rb;exact .p fun Q E q => lt_int q
 ·cases x <;> first | exact (nn h).elim | skip
  ·cases y <;> first | exact (nn h).elim | skip
   obtain rfl:=Option.some.inj h;obtain ⟨t,u,rfl,rfl⟩:=ra.two_int rb;exact .p fun Q E q => le_int q
  ·cases y <;> first | exact (nn h).elim | skip
   obtain rfl:=Option.some.inj h;obtain ⟨t,u,rfl,rfl⟩:=ra.two_flt rb;exact .p fun Q E q => AutoFloatOps.le_0 q
 ·cases x <;> first | exact (nn h).elim | skip
  cases y <;> first | exact (nn h).elim | skip
  obtain rfl:=Option.some.inj h;obtain ⟨t,u,rfl,rfl⟩:=ra.two_int rb;exact .p fun Q E q => gt_int q
 ·cases x <;> first | exact (nn h).elim | skip
  cases y <;> first | exact (nn h).elim | skip
  obtain rfl:=Option.some.inj h;obtain ⟨t,u,rfl,rfl⟩:=ra.two_int rb;exact .p fun Q E q => ge_int q
 ·cases x <;> first | exact (nn h).elim | skip
  ·cases y <;> first | exact (nn h).elim | skip
   obtain rfl:=Option.some.inj h;rw [ra.noneE,rb.noneE];exact is_of rfl
  ·cases y <;> first | exact (nn h).elim | skip
   obtain rfl:=Option.some.inj h;rw [ra.boolE,rb.boolE];exact is_of (by rename_i p q;cases p <;> cases q <;> rfl)
  ·cases y <;> first | exact (nn h).elim | skip
   obtain rfl:=Option.some.inj h;obtain ⟨t,rfl⟩:=ra.intE;rw [rb.noneE];exact is_of rfl
 ·cases x <;> first | exact (nn h).elim | skip
  ·cases y <;> first | exact (nn h).elim | skip
   obtain rfl:=Option.some.inj h;rw [ra.noneE,rb.noneE];exact isNot_of (r:=true) rfl
  ·cases y <;> first | exact (nn h).elim | skip
   obtain rfl:=Option.some.inj h;rw [ra.boolE,rb.boolE];exact isNot_of (r:=_ == _) (by rename_i p q;cases p <;> cases q <;> rfl)
  ·cases y <;> first | exact (nn h).elim | skip
   obtain rfl:=Option.some.inj h;obtain ⟨t,rfl⟩:=ra.strE;rw [rb.noneE];exact isNot_of (r:=false) rfl
 ·cases x <;> first | exact (nn h).elim | skip
  ·cases y <;> first | exact (nn h).elim | skip
   ·obtain ⟨ns,hns,rfl⟩:=Option.map_eq_some_iff.mp h
    obtain ⟨t,rfl⟩:=ra.intE
    obtain ⟨a',us,rfl,hb,_,hq⟩:=rb.tupE
    exact .p fun Q E q => in_tuple_ints hb (ints_of hq hns) q
   ·obtain ⟨q,rfl⟩:=if_some h;obtain rfl:=of_decide_eq_true q;obtain ⟨t,rfl⟩:=ra.intE;rw [rb.glE];exact .q fun Q E q => wpAny_inSet_of (intKind_is pw w _ t) rfl (tab_b1 I) q
  ·cases y <;> first | exact (nn h).elim | skip
   obtain ⟨q,rfl⟩:=if_some h;obtain rfl:=of_decide_eq_true q;obtain ⟨t,rfl⟩:=ra.strE;rw [rb.glE,← tok_has w.params];exact .q fun Q E q => wpAny_in_of (strKind_is pw w _ t) rfl (tab_tok I) q
 ·cases x <;> first | exact (nn h).elim | skip
  cases y <;> first | exact (nn h).elim | skip
  ·rename_i l r0;cases l with
   | nil => exact (nn h).elim
   | cons c l => cases l with
    | nil => obtain rfl:=Option.some.inj h;obtain ⟨t,rfl⟩:=ra.strE;obtain ⟨u,rfl⟩:=rb.strE;exact in_one _ _ _ _
    | cons c2 l => exact (nn h).elim
  ·obtain ⟨q,rfl⟩:=if_some h;obtain rfl:=of_decide_eq_true q;obtain ⟨t,rfl⟩:=ra.strE;rw [rb.glE,← tok_has w.params];exact .q fun Q E q => wpAny_notIn_of (strKind_is pw w _ t) rfl (tab_tok I) q
end
end
section
section
variable {w:World} {A:Around} {E:Value → Shared → Prop} {L:Addr} {X:Addr → Prop} {s:Shared} {n:Nat}
noncomputable def Cont (w:World) (h:Heap) (X:Addr → Prop) (n:Nat) (v:Value) (p:PV):Prop:=match p with
 | .list l => ∃ a vs,v = .ref a ∧ h.IsList a (List.toArray vs) ∧ Reps w h X n vs l
 | .dict l => ∃ a kvs ep,v = .ref a ∧ h.DictAt (intKind pw w) a kvs ep ∧ (a == sysModules) = false ∧ kvs.map (·.1) = l.map (·.1) ∧ Reps w h X n (kvs.map (·.2)) (l.map (·.2))
 | p => Rep w h X n v p
theorem Rep.cont {h:Heap} {v:Value} {p:PV} (r:Rep w h X n v p):Cont w h X n v p:=by
 cases p with
 | list l => obtain ⟨a,vs,e,ha,_,hr⟩:=r.listE;exact ⟨a,vs,e,ha,hr⟩
 | dict l => obtain ⟨a,vs,ep,e,ha,hs,_,hr⟩:=r.dictE;exact ⟨a,vs,ep,e,ha,hs,hr⟩
 | _ => exact r
theorem SlotRep.cont {h:Heap} {a:Addr} {v:Value} {t:Slot} (r:SlotRep w h X n a v t):Cont w h X n v (froz t):=by
 cases t with
 | val p => exact Rep.cont r
 | ownL l => obtain ⟨rfl,vs,k,e,hr⟩:=r;exact ⟨_,_,rfl,⟨_,e,rfl,k,rfl⟩,hr⟩
 | ownD l => obtain ⟨rfl,kvs,ep,hd,hs,hk,hr⟩:=r;exact ⟨_,_,_,rfl,hd,hs,hk,hr⟩
theorem Cont.list {h:Heap} {v:Value} {l:List PV} (c:Cont w h X n v (.list l)):∃ a vs,v = .ref a ∧ h.IsList a (List.toArray vs) ∧ Reps w h X n vs l:=c
theorem Cont.dict {h:Heap} {v:Value} {l:List (Int × PV)} (c:Cont w h X n v (.dict l)):∃ a kvs ep,v = .ref a ∧ h.DictAt (intKind pw w) a kvs ep ∧ (a == sysModules) = false ∧ kvs.map (·.1) = l.map (·.1) ∧ Reps w h X n (kvs.map (·.2)) (l.map (·.2)):=c
noncomputable def DictGot (w:World) (h:Heap) (X:Addr → Prop) (n:Nat) (i:Int) (o:Option Value) (r:Option PV):Prop:=(∀ p,r = some p → ∃ v,o = some v ∧ Rep w h X n v p) ∧ (r = none → o = none)
theorem dict_find {h:Heap} (i:Int) {l:List (Int × PV)}:∀ {kvs:List (Int × Value)},kvs.map (·.1) = l.map (·.1) → Reps w h X n (kvs.map (·.2)) (l.map (·.2)) → DictGot w h X n i (valueAt kvs i) (lookI i l):=by
 induction l with
 | nil =>
  intro kvs hk _
  cases kvs with
  | nil => exact ⟨nofun,fun _ => rfl⟩
  | cons => cases hk
 | cons q l ih =>
  intro kvs hk hr
  cases kvs with
  | nil => cases hk
  | cons kv kvs =>
   obtain ⟨v,us,e,a,b⟩:=hr.consE
   injection e with e1 e2
   injection hk with hk1 hk2
   have hk1:kv.1 = q.1:=hk1
   have ih:=ih hk2 (e2 ▸ b)
   unfold valueAt
   rw [show lookI i (q :: l) = if decide (q.1 = i) then some q.2 else lookI i l from rfl]
   rw [List.find?_cons,hk1]
   cases decide (q.1 = i) with
   | true => exact ⟨fun p e => ⟨_,rfl,e1 ▸ Option.some.inj e ▸ a⟩,nofun⟩
   | false => exact ih
theorem mapOf_at {h:Heap} {a:Addr} {kvs:List (Int × Value)} {ep:Nat} (d:h.DictAt (intKind pw w) a kvs ep):h.MapOf (intKind pw w) a (valueAt kvs):=d.dictOf.mapOf
theorem sub_ne {slice:Expr} {o i:Value} (h:∀ a b c d,slice ≠ .Slice a b c d):subscripted slice false o i = operate [o,i] (getItem o i):=by
 cases slice <;> first | rfl | exact absurd rfl (h _ _ _ _)
theorem nth_get {l:List PV} {vs:List Value} {i:Int} {z:PV} {h:Heap} (hr:Reps w h X n vs l) (e:nth l i = some z):0 ≤ i ∧ i < 1099511627776 ∧ i.toNat < vs.length ∧ ∃ v,vs[i.toNat]? = some v ∧ Rep w h X n v z:=by
 obtain ⟨q,e⟩:=if_then e
 obtain ⟨q1,q2⟩:=and_2 q
 obtain ⟨v,hv,r⟩:=hr.get _ e
 exact ⟨of_decide_eq_true q1,(small_iff.mp q2).2,(List.getElem?_eq_some_iff.mp hv).1,v,hv,r⟩
theorem snd_idx (I:(KF w.params).In s.heap) {x y z:PV} {a b:Value} {value slice:Expr} (hs:∀ a b c d,slice ≠ .Slice a b c d) (h:idxop x y = some z) (ra:Cont w s.heap X s.toks a x) (rb:Rep w s.heap X s.toks b y) :
  Gives w A L X s (subscriptTail value slice a b) z:=by
 cases x <;> first | exact (nn h).elim | (cases y <;> first | exact (nn h).elim | skip)
 ·obtain ⟨t,rfl⟩:=rb.intE
  obtain ⟨c,vs,rfl,ha,hx,hr⟩:=Rep.tupE ra
  obtain ⟨h0,h1,h2,v,hv,r⟩:=nth_get hr h
  exact fun Q E hQ => item_tupleT ha (by lia) (by lia) (seqIndex_of h0 (by lia)) (by simpa using hv) (hQ s v (Ext.refl L s) r) (sub_ne hs)
 ·obtain ⟨t,rfl⟩:=rb.intE
  obtain ⟨c,vs,rfl,hl,hr⟩:=ra.list
  obtain ⟨h0,h1,h2,v,hv,r⟩:=nth_get hr h
  exact fun Q E hQ => tail_any hl.typeIs slot_list_getitem.lookup (wpAny_getItem_list hl h0 (by lia) (by simpa using hv) (hQ s v (Ext.refl L s) r)) (sub_ne hs)
 ·obtain ⟨t,rfl⟩:=rb.intE
  obtain ⟨c,kvs,ep,rfl,hd,hsm,hk,hr⟩:=ra.dict
  obtain ⟨v,hv,r⟩:=(dict_find _ hk hr).1 z h
  exact Gives.t (fun Q E q => tail_any (mapOf_at hd).typeIs slot_dict_getitem.lookup (wpAny_getItem_of (intKind_is pw w _ t) (mapOf_at hd) hv q) (sub_ne hs)) (Rep.mono (fun _ _ _ e => e) (fun _ q => .inl q) (Nat.le_succ _) r)
 ·rename_i g l
  obtain ⟨t,rfl⟩:=rb.strE
  obtain ⟨q,h⟩:=if_then h
  obtain rfl:=of_decide_eq_true q
  obtain rfl:=Rep.glE ra
  obtain ⟨i,hi,rfl⟩:=Option.map_eq_some_iff.mp h
  have:=find_tok (k l) _ _ (tok_ents w.params)
  rw [show (k l).cps.toList = l from rfl,hi] at this
  obtain ⟨t',e⟩:=this
  exact Gives.t (fun Q E q => tail_any (tab_tok I).typeIs slot_dict_getitem.lookup (wpAny_getItem_of (strKind_is pw w (k _) t) (tab_tok I) e q) (sub_ne hs)) (.int _ _)
end
end
section
section
variable {w:World} {A:Around} {E:Value → Shared → Prop} {L:Addr} {X:Addr → Prop} {s:Shared} {n:Nat}
theorem clipOpt_pos {i:Int} (h:0 ≤ i) (n:Nat):clipAt n i = min i.toNat n:=by
 have:=clipAt_nat n i.toNat
 rwa [Int.toNat_of_nonneg h] at this
theorem cut_eq {α:Type} (l:List α) (a b:Nat):(l.drop (min a l.length)).take (min b l.length - min a l.length) = cut l a b:=by
 unfold cut
 rw [List.drop_take]
 rcases Nat.le_total a l.length with h | h
 ·rw [Nat.min_eq_left h]
  rcases Nat.le_total b l.length with h' | h'
  ·rw [Nat.min_eq_left h']
  ·rw [Nat.min_eq_right h',List.take_of_length_le (by simp),List.take_of_length_le (by simp;lia)]
 ·rw [Nat.min_eq_right h,List.drop_of_length_le (Nat.le_refl _),List.drop_of_length_le h];simp
theorem drop_eq {α:Type} (l:List α) (a:Nat):(l.drop (min a l.length)).take (l.length - min a l.length) = l.drop a:=by
 rw [List.take_of_length_le (by simp)]
 rcases Nat.le_total a l.length with h | h
 ·rw [Nat.min_eq_left h]
 ·rw [Nat.min_eq_right h,List.drop_of_length_le (Nat.le_refl _),List.drop_of_length_le h]
theorem bnd_some {p:PV} {a:Nat} (h:bnd p = some a):∃ i,p = .int i ∧ 0 ≤ i ∧ small i = true ∧ a = i.toNat:=by
 unfold bnd at h
 split at h
 ·rename_i i
  split at h
  ·rename_i q
   simp only [Bool.and_eq_true,decide_eq_true_eq] at q
   cases h;exact ⟨i,rfl,q.1,q.2,rfl⟩
  ·exact (nS h).elim
 ·exact (nS h).elim
inductive Bd (w:World) (h:Heap) (X:Addr → Prop) (n:Nat):Value → Option PV → Prop
 | none:Bd w h X n .none none
 | some {v:Value} {p:PV} (r:Rep w h X n v p):Bd w h X n v (some p)
theorem strIdx (l:List Nat) (lo hi:Option Int):(Builtin.Str.strSliceIndices lo hi 1 l.length).filterMap (l.toArray[·]?) = (l.drop (lo.elim 0 (clipAt l.length))).take (hi.elim l.length (clipAt l.length) - lo.elim 0 (clipAt l.length)):=by
 have:Builtin.Str.strSliceIndices lo hi 1 l.length = sliceRange ((lo.elim 0 (clipAt l.length):Nat):Int) ((hi.elim l.length (clipAt l.length):Nat):Int) 1:=by
  cases lo <;> cases hi <;> simp [Builtin.Str.strSliceIndices,clipAt_cast]
 rw [this,sliceRange_one]
 have:=pick_run l.toArray (lo.elim 0 (clipAt l.length)) (hi.elim l.length (clipAt l.length) - lo.elim 0 (clipAt l.length))
 simpa using this
theorem strIdx_len (l:List Nat) (lo hi:Option Int):(Builtin.Str.strSliceIndices lo hi 1 l.length).length = hi.elim l.length (clipAt l.length) - lo.elim 0 (clipAt l.length):=by
 have:Builtin.Str.strSliceIndices lo hi 1 l.length = sliceRange ((lo.elim 0 (clipAt l.length):Nat):Int) ((hi.elim l.length (clipAt l.length):Nat):Int) 1:=by
  cases lo <;> cases hi <;> simp [Builtin.Str.strSliceIndices,clipAt_cast]
 rw [this,sliceRange_one];simp
theorem clip_le (n:Nat) (i:Int):clipAt n i ≤ n:=by have:=clipAt_cast n i;lia
theorem snd_slice_str {l r:List Nat} {t:Tok} {lo hi:Option (Int × Tok)} {Q:Value → Shared → Prop}
  (e:r = (l.drop ((lo.map (·.1)).elim 0 (clipAt l.length))).take ((hi.map (·.1)).elim l.length (clipAt l.length) - (lo.map (·.1)).elim 0 (clipAt l.length)))
  (hl:lim l.length = true) (h:∀ t' tk,s.toks ≤ tk → Q (.str (k r) t') { s with toks:=tk }):(sliceMade (k l) t lo hi none).post Q s:=by
 have hidx:=strIdx l (lo.map (·.1)) (hi.map (·.1))
 have hlen:=strIdx_len l (lo.map (·.1)) (hi.map (·.1))
 unfold sliceMade
 split
 ·rename_i q
  delta slicePicked at q
  simp only [Option.map_none,Option.getD_none,BEq.rfl,Bool.true_and,beq_iff_eq,k_length] at q
  rw [hlen] at q
  have:r = l:=by
   rw [e]
   have h2:(hi.map (·.1)).elim l.length (clipAt l.length) ≤ l.length:=by cases hi <;> simp [clip_le]
   have h3:(lo.map (·.1)).elim 0 (clipAt l.length) ≤ l.length:=by cases lo <;> simp [clip_le]
   by_cases h0:l.length = 0
   ·have:l = []:=List.length_eq_zero_iff.mp h0
    subst this;simp
   ·have h1:(lo.map (·.1)).elim 0 (clipAt l.length) = 0:=by lia
    rw [h1] at q ⊢
    rw [List.drop_zero,List.take_of_length_le (by lia)]
  have:=h t s.toks (Nat.le_refl _)
  subst ‹r = l›
  exact this
 ·have hh:(⟨((slicePicked (k l) lo hi none).filterMap ((k l).cps[·]?)).toArray⟩:PySem.Str) = k r:=by
   rw [e,← hidx];rfl
  rw [hh]
  refine ⟨?_,h s.toks (s.toks + 1) (Nat.le_succ _)⟩
  have h1:=lim_iff.mp hl
  rw [k_length,e,List.length_take,List.length_drop,show sizeLine = 16777216 from rfl];lia
noncomputable def slS (s:Shared) (vl vu:Value):Shared:={ s with heap:=s.heap.push ({ cls:=.type "slice",data:=.fields #[vl,vu,.none] }:Obj) }
theorem sl_new (s:Shared) (vl vu:Value):¬ (slS s vl vu).heap.objs.size < s.heap.objs.size:=Nat.not_lt.mpr (Nat.le_trans (Nat.le_succ _) (Nat.le_of_eq (Heap.size_push s.heap ..).symm))
noncomputable def IsBd (v:Value) (f:Option Int → Prop):Prop:=∃ q:Option Int,IsPart v q ∧ (∃ r:Option (Int × Tok),v = partValue r ∧ r.map (·.1) = q) ∧ f q
noncomputable def IsLo (v:Value) (a:Nat):Prop:=IsBd v fun q => ∀ n,q.elim 0 (clipAt n) = min a n
noncomputable def IsHi (v:Value) (b:Nat → Nat):Prop:=IsBd v fun q => ∀ n,q.elim n (clipAt n) = b n
theorem is_num {h:Heap} {n:Nat} {v:Value} {p:PV} {a:Nat} {f:Option Int → Prop} (r:Rep w h X n v p) (hb:bnd p = some a) (hf:f (some a)):IsBd v f:=by
 obtain ⟨i,rfl,h0,_,rfl⟩:=bnd_some hb
 obtain ⟨t,rfl⟩:=r.intE
 exact ⟨some i,.int i t,⟨some (i,t),rfl,rfl⟩,Int.toNat_of_nonneg h0 ▸ hf⟩
theorem lo_of {h:Heap} {n:Nat} {v:Value} {lo:Option PV} {a:Nat} (b:Bd w h X n v lo) (ha:slLo lo = some a):IsLo v a:=by
 cases b with
 | none => cases ha;exact ⟨none,.none,⟨none,rfl,rfl⟩,fun n => (Nat.zero_min n).symm⟩
 | some r => exact is_num r ha fun n => clipAt_nat n a
theorem hi_of {α:Type} {h:Heap} {n:Nat} {v:Value} {hi:Option PV} {a:Nat} {l:List α} {F:List α → PV} {z:PV} (hz:(match hi with | some x => do some (F (cut l a (← bnd x))) | none => some (F (l.drop a))) = some z) (b:Bd w h X n v hi) :
  ∃ b,IsHi v b ∧ z = F ((l.drop (min a l.length)).take (b l.length - min a l.length)):=by
 cases b with
 | none => cases hz;exact ⟨id,⟨none,.none,⟨none,rfl,rfl⟩,fun n => rfl⟩,congrArg F (drop_eq l a).symm⟩
 | some r =>
  obtain ⟨b,hb,hz⟩:=Option.bind_eq_some_iff.mp hz
  cases hz
  exact ⟨(min b ·),is_num r hb fun n => clipAt_nat n b,congrArg F (cut_eq l a b).symm⟩
section
variable {penv:Env} {x:PySem.Str} {px sp pos:Pos} {Q:Value → Shared → Prop} {lower upper:Option Expr} {vl vu:Value} {a:Nat} {b:Nat → Nat}
theorem slice_str {l:List Nat} {t:Tok} (hl:IsLo vl a) (hh:IsHi vu b) (hlim:lim l.length = true) (hQ:∀ s' v,Ext L s s' → Rep w s'.heap X s'.toks v (.str ((l.drop (min a l.length)).take (b l.length - min a l.length))) → Q v s') :
  wpAny (model pw w) A (subscriptTail (.Name x px) (.Slice lower upper none sp) (.str (k l) t) (.ref s.heap.objs.size)) Q E (slS s vl vu):=by
 obtain ⟨q,_,⟨r,rfl,hr⟩,hq⟩:=hl
 obtain ⟨q',_,⟨r',rfl,hr'⟩,hq'⟩:=hh
 refine subscriptTail_ops (typeIs_str _ _ t) F.slot_str_getitem.lookup (wpAny_getItem_str_slice (l:=r) (u:=r') (st:=none) ⟨_,Heap.get?_push_size _ rfl,rfl,rfl⟩ rfl ?_) rfl (fun _ => rfl)
 refine snd_slice_str (r:=(l.drop (min a l.length)).take (b l.length - min a l.length)) ?_ hlim fun t' tk htk => hQ _ _ ((Ext.pushS L s _).trans (Ext.toks L _ tk htk)) (.str _ _)
 rw [hr,hr',hq,hq']
theorem slice_list {l:List PV} {c:Addr} {vs:List Value} (hl:IsLo vl a) (hh:IsHi vu b) (hX:∀ a,X a → a < s.heap.objs.size) (hlim:lim l.length = true) (hi:s.heap.IsList c (List.toArray vs)) (hr:Reps w s.heap X s.toks vs l)
  (hQ:∀ s' v,Ext L s s' → Rep w s'.heap X s'.toks v (.list ((l.drop (min a l.length)).take (b l.length - min a l.length))) → Q v s') :
  wpAny (model pw w) A (subscriptTail (.Name x px) (.Slice lower upper none sp) (.ref c) (.ref s.heap.objs.size)) Q E (slS s vl vu):=by
 obtain ⟨q,hp,_,hq⟩:=hl
 obtain ⟨q',hp',_,hq'⟩:=hh
 have hlen:=hr.length
 have hsz:(List.toArray vs).size ≤ sizeLine:=by
  have:=lim_iff.mp hlim
  rw [List.size_toArray,show sizeLine = 16777216 from rfl];lia
 refine subscriptTail_ops (Heap.IsList.typeIs (s:=slS s vl vu) (hi.push _)) list_getitem_lookup (wpAny_getItem_list_slice (hi.push _) (Heap.IsSliceOf.new ..) hp hp' .none (by simp) ?_ hsz) rfl (fun _ => rfl)
 refine hQ _ _ ((Ext.pushS L s _).trans (Ext.pushS L _ _)) ?_
 rw [slicePick_plain]
 refine .list ⟨_,Heap.get?_push_size _ rfl,rfl,_,rfl⟩ (fun z => ?_) ?_
 ·exact absurd (hX _ z) (sl_new _ _ _)
 ·rw [List.size_toArray,hlen,hq,hq']
  exact Reps.mono (fun b o _ e => Heap.get?_push_of_some _ (Heap.get?_push_of_some _ e)) (fun _ y => .inl y) (Nat.le_refl _) ((hr.drop _).take _)
theorem slice_tup {l:List PV} {o:Value} {h:Heap} {n:Nat} {lo:Option PV} (bl:Bd w h X n vl lo) (hlo:slLo lo = some a) (hX:∀ a,X a → a < s.heap.objs.size) (hlim:(lim l.length && Nat.ble 1 a && Nat.ble a l.length) = true) (ho:Rep w s.heap X s.toks o (.tup l))
  (hQ:∀ s' v,Ext L s s' → Rep w s'.heap X s'.toks v (.tup (l.drop a)) → Q v s') :
  wpAny (model pw w) A (subscriptTail (.Name x px) (.Slice lower upper none sp) o (.ref s.heap.objs.size)) Q E (slS s vl .none):=by
 obtain ⟨hlim,h1,h2⟩:=and_3 hlim
 have h1:=Nat.le_of_ble_eq_true h1
 have h2:=Nat.le_of_ble_eq_true h2
 obtain ⟨c,vs,rfl,ht,hx,hr⟩:=ho.tupE
 have hlen:=hr.length
 have hsz:(List.toArray vs).size ≤ sizeLine:=by
  have:=lim_iff.mp hlim
  rw [List.size_toArray,show sizeLine = 16777216 from rfl];lia
 obtain ⟨t,rfl⟩:∃ t,vl = .int (a:Int) t:=by
  cases bl with
  | none => cases hlo;exact absurd h1 (by decide)
  | some r' =>
   obtain ⟨i,rfl,h0,_,rfl⟩:=bnd_some hlo
   obtain ⟨t,rfl⟩:=r'.intE
   exact ⟨t,by rw [Int.toNat_of_nonneg h0]⟩
 have ht':IsTup (slS s (.int a t) .none).heap c vs.toArray:=IsTup.keeps (h:=s.heap) ht fun _ _ e => Heap.get?_push_of_some _ e
 refine subscriptTail_ops (s:=slS s (.int a t) .none) ht'.typeIs slot_tuple_getitem.lookup (getItem_tuple_from ht' (Heap.IsSliceOf.new ..) h1 (by rw [List.size_toArray,hlen];exact h2) ?_ hsz) rfl (fun _ => rfl)
 refine hQ _ _ ((Ext.pushS L s _).trans (Ext.pushS L _ _)) ?_
 refine .tup ⟨_,Heap.get?_push_size _ rfl,rfl,_,rfl⟩ (fun z => ?_) ?_
 ·exact absurd (hX _ z) (sl_new _ _ _)
 ·exact Reps.mono (fun b o _ e => Heap.get?_push_of_some _ (Heap.get?_push_of_some _ e)) (fun _ y => .inl y) (Nat.le_refl _) (hr.drop _)
end
noncomputable def SliceTo (w:World) (L:Addr) (Q:Value → Shared → Prop) (o vl vu:Value) (s:Shared):Prop :=
 ∃ X p lo hi z,Cont w s.heap X s.toks o p ∧ Bd w s.heap X s.toks vl lo ∧ Bd w s.heap X s.toks vu hi ∧ slcop p lo hi = some z ∧ (∀ a,X a → a < s.heap.objs.size) ∧ ∀ s' v,Ext L s s' → Rep w s'.heap X s'.toks v z → Q v s'
theorem slice_to {x:PySem.Str} {px sp:Pos} {Q:Value → Shared → Prop} {lower upper:Option Expr} {o vl vu:Value} (h:SliceTo w L Q o vl vu s):wpAny (model pw w) A (subscriptTail (.Name x px) (.Slice lower upper none sp) o (.ref s.heap.objs.size)) Q E (slS s vl vu):=by
 obtain ⟨X,p,lo,hi,z,hc,bl,bu,hz,hX,hQ⟩:=h
 obtain ⟨a,ha,hz⟩:=Option.bind_eq_some_iff.mp hz
 cases p <;> first | (cases hz;done) | skip
 ·obtain ⟨q,hz⟩:=if_then hz
  obtain ⟨b,hb,rfl⟩:=hi_of (F:=.str) hz bu
  obtain ⟨t,rfl⟩:=Rep.strE (h:=s.heap) (w:=w) (X:=X) (n:=s.toks) hc
  exact slice_str (lo_of bl ha) hb q hQ
 ·obtain ⟨q,hz⟩:=if_then hz
  cases bu with
  | some r => exact (nS hz).elim
  | none => cases hz;exact slice_tup bl ha hX q (show Rep w s.heap X s.toks o (.tup _) from hc) hQ
 ·obtain ⟨q,hz⟩:=if_then hz
  obtain ⟨b,hb,rfl⟩:=hi_of (F:=.list) hz bu
  obtain ⟨c,vs,rfl,hl,hr⟩:=hc.list
  exact slice_list (lo_of bl ha) hb hX q hl hr hQ
theorem snd_slice {penv:Env} {x:PySem.Str} {px sp pos:Pos} {Q:Value → Shared → Prop} {lower upper:Option Expr}
  (h:wpAny (model pw w) A (eval (.Name x px) penv) (fun o s₁ => wpAny (model pw w) A (evalPart lower penv) (fun vl s₂ => wpAny (model pw w) A (evalPart upper penv) (fun vu s₃ => SliceTo w L Q o vl vu s₃) E s₂) E s₁) E s) :
  wpAny (model pw w) A (eval (.Subscript (.Name x px) (.Slice lower upper none sp) pos) penv) Q E s:=by
 refine Subscript_ (wpAny_mono h (fun o s₁ h₁ => wpAny_Slice (wpAny_mono h₁ (fun vl s₂ h₂ => wpAny_mono h₂ (fun vu s₃ h₃ => ?_) fun _ _ e => e) fun _ _ e => e)) fun _ _ e => e)
 rw [evalPart_none]
 exact wpAny_pure (slice_to h₃)
end
end
section
section
theorem max3_args (a b c:Value):argsOk "max" ⟨[a,b,c],[]⟩:=by unfold argsOk;kernel_rfl
theorem min3_args (a b c:Value):argsOk "min" ⟨[a,b,c],[]⟩:=by unfold argsOk;kernel_rfl
variable {prog:Program} {w:World} {A:Around} {E:Value → Shared → Prop} {s:Shared}
theorem call_max_three {a b c:Value} {Q:Value → Shared → Prop}
  (h:wpAny (model prog w) A.in1 (pyIter (.ref s.heap.objs.size)) (fun it s₂ => ∃ I fp wr n P St bt,it = .ref I ∧ Walks prog w A.in1 I fp wr n P St ∧ St 0 s₂.heap ∧ (∀ b ∈ fp,b < s₂.heap.objs.size) ∧ 0 < n ∧ CmpOf prog w A.in1 .Gt P bt ∧
   ∀ v h' tk,P (argBest bt (n - 1)) v → (∀ b o,b ∉ wr → s₂.heap.get? b = some o → h'.get? b = some o) → Q v { s₂ with heap:=h',toks:=tk }) E
   { s with heap:=s.heap.push { cls:=.type "tuple",data:=.seq #[a,b,c] } }) :
  wpAny (model prog w) A (call (.builtin "max") [a,b,c]) Q E s:=by
 have hname:(toString "max" ++ toString ".loop" : String) = "max.loop":=by decide
 refine call_function_tree F.kind_max F.plain_max F.entry_max (max3_args _ _ _) ?_
 show wpAny _ A.in1 (Builtin.Builtins.bindParams "max" ["key","default"] 0 ⟨[],[]⟩ >>= _) _ _ s
 refine wpAny_bind (wpAny_of_eq (show Builtin.Builtins.bindParams "max" ["key","default"] 0 ⟨[],[]⟩ = pure [none,none] from rfl) ?_)
 show wpAny _ A.in1 (newTuple [a,b,c] >>= _) _ _ s
 refine wpAny_bind (wpAny_newObj_type ?_)
 refine wpAny_bind (wpAny_mono h (fun it s₂ h₂ => ?_) fun _ _ e => e)
 obtain ⟨I,fp,wr,n,P,St,bt,rfl,W,hst,hfp,hn,hcmp,hQ⟩:=h₂
 refine wpAny_bind (wpAny_newObj_type ?_)
 have hSf:s₂.heap.objs.size ∉ fp:=fun hm => Nat.lt_irrefl _ (hfp _ hm)
 rw [hname]
 refine wpAny_pure ⟨plainId_quiet F.plain_max_loop _,codeAny_max_loop_first W bt hcmp s₂.heap.objs.size hSf hn (W.frame _ _ _ hst fun b _ o e => Heap.get?_push_of_some _ e) (Heap.get?_push_size _ rfl) fun v h' tk hP hk => ?_⟩
 exact hQ v h' tk hP fun b o hbw e => hk b o hbw (Nat.ne_of_lt (Heap.lt_size e)) (Heap.get?_push_of_some _ e)
theorem call_min_three {a b c:Value} {Q:Value → Shared → Prop}
  (h:wpAny (model prog w) A.in1 (pyIter (.ref s.heap.objs.size)) (fun it s₂ => ∃ I fp wr n P St bt,it = .ref I ∧ Walks prog w A.in1 I fp wr n P St ∧ St 0 s₂.heap ∧ (∀ b ∈ fp,b < s₂.heap.objs.size) ∧ 0 < n ∧ CmpOf prog w A.in1 .Lt P bt ∧
   ∀ v h' tk,P (argBest bt (n - 1)) v → (∀ b o,b ∉ wr → s₂.heap.get? b = some o → h'.get? b = some o) → Q v { s₂ with heap:=h',toks:=tk }) E
   { s with heap:=s.heap.push { cls:=.type "tuple",data:=.seq #[a,b,c] } }) :
  wpAny (model prog w) A (call (.builtin "min") [a,b,c]) Q E s:=by
 have hname:(toString "min" ++ toString ".loop" : String) = "min.loop":=by decide
 refine call_function_tree F.kind_min F.plain_min F.entry_min (min3_args _ _ _) ?_
 show wpAny _ A.in1 (Builtin.Builtins.bindParams "min" ["key","default"] 0 ⟨[],[]⟩ >>= _) _ _ s
 refine wpAny_bind (wpAny_of_eq (show Builtin.Builtins.bindParams "min" ["key","default"] 0 ⟨[],[]⟩ = pure [none,none] from rfl) ?_)
 show wpAny _ A.in1 (newTuple [a,b,c] >>= _) _ _ s
 refine wpAny_bind (wpAny_newObj_type ?_)
 refine wpAny_bind (wpAny_mono h (fun it s₂ h₂ => ?_) fun _ _ e => e)
 obtain ⟨I,fp,wr,n,P,St,bt,rfl,W,hst,hfp,hn,hcmp,hQ⟩:=h₂
 refine wpAny_bind (wpAny_newObj_type ?_)
 have hSf:s₂.heap.objs.size ∉ fp:=fun hm => Nat.lt_irrefl _ (hfp _ hm)
 rw [hname]
 refine wpAny_pure ⟨plainId_quiet F.plain_min_loop _,codeAny_min_loop_first W bt hcmp s₂.heap.objs.size hSf hn (W.frame _ _ _ hst fun b _ o e => Heap.get?_push_of_some _ e) (Heap.get?_push_size _ rfl) fun v h' tk hP hk => ?_⟩
 exact hQ v h' tk hP fun b o hbw e => hk b o hbw (Nat.ne_of_lt (Heap.lt_size e)) (Heap.get?_push_of_some _ e)
theorem three_it {a b c:Value} {op:CmpOp} {bt:Nat → Nat → Bool} {Q:Value → Shared → Prop} (hh:A.handled = none)
  (hc:CmpOf prog w A op (fun i v => (#[a,b,c]:Array Value)[i]? = some v) bt)
  (h:∀ v h' tk,(#[a,b,c]:Array Value)[argBest bt 2]? = some v → (∀ b o,s.heap.get? b = some o → h'.get? b = some o) → Q v { s with heap:=h',toks:=tk }) :
  wpAny (model prog w) A (pyIter (.ref s.heap.objs.size)) (fun it s₂ => ∃ I fp wr n P St bt,it = .ref I ∧ Walks prog w A I fp wr n P St ∧ St 0 s₂.heap ∧ (∀ b ∈ fp,b < s₂.heap.objs.size) ∧ 0 < n ∧ CmpOf prog w A op P bt ∧
   ∀ v h' tk,P (argBest bt (n - 1)) v → (∀ b o,b ∉ wr → s₂.heap.get? b = some o → h'.get? b = some o) → Q v { s₂ with heap:=h',toks:=tk }) E
   { s with heap:=s.heap.push { cls:=.type "tuple",data:=.seq #[a,b,c] } }:=by
 have hT:(s.heap.push { cls:=.type "tuple",data:=.seq #[a,b,c] }).IsTuple s.heap.objs.size #[a,b,c]:=⟨_,Heap.get?_push_size _ rfl,rfl,0,rfl⟩
 refine wpAny_pyIter_tuple hT ?_
 have hsz:(s.heap.push { cls:=.type "tuple",data:=.seq #[a,b,c] }).objs.size = s.heap.objs.size + 1:=Heap.size_push ..
 refine ⟨_,[_,s.heap.objs.size],[_],_,_,_,bt,rfl,Walks.tuple (A:=A) hh _ s.heap.objs.size (by rw [hsz];exact Nat.ne_of_lt (Nat.lt_succ_self _)) #[a,b,c],
  ⟨⟨_,Heap.get?_push_size _ rfl,rfl,rfl⟩,hT.push _⟩,fun c hc => ?_,by simp,hc,fun v h' tk hP hk => ?_⟩
 ·show c < ((s.heap.push _).push _).objs.size
  rw [Heap.size_push,hsz]
  rcases List.mem_cons.mp hc with rfl | hc
  ·rw [hsz];exact Nat.lt_succ_self _
  ·rcases List.mem_cons.mp hc with rfl | hc
   ·exact Nat.lt_succ_of_lt (Nat.lt_succ_self _)
   ·cases hc
 ·refine h v h' tk hP fun c o e => ?_
  refine hk c o (fun hm => ?_) (Heap.get?_push_of_some _ (Heap.get?_push_of_some _ e))
  rcases List.mem_cons.mp hm with e1 | hm
  ·have:=Heap.lt_size e;rw [e1,hsz] at this;exact Nat.lt_irrefl _ (Nat.lt_of_succ_lt this)
  ·cases hm
end
section
variable {w:World} {A:Around} {E:Value → Shared → Prop} {L:Addr} {X:Addr → Prop} {s:Shared} {n:Nat}
noncomputable def at3 (x y z:UInt64):Nat → UInt64
 | 0 => x
 | 1 => y
 | _ => z
theorem at3_of {x y z:UInt64} {t u v:Tok} {i:Nat} {a:Value} (h:(#[.float x t,.float y u,.float z v]:Array Value)[i]? = some a):∃ t,a = .float (at3 x y z i) t:=by
 match i,h with
 | 0,h => simp at h;exact ⟨t,h.symm⟩
 | 1,h => simp at h;exact ⟨u,h.symm⟩
 | 2,h => simp at h;exact ⟨v,h.symm⟩
 | _ + 3,h => simp at h
noncomputable def best2 (g:UInt64 → UInt64 → Bool) (a b:UInt64):UInt64:=if g b a then b else a
theorem best_three {g:UInt64 → UInt64 → Bool} {h:Heap} {x y z:UInt64} {t u v:Tok} {a:Value} (hv:(#[.float x t,.float y u,.float z v]:Array Value)[argBest (fun i j => g (at3 x y z i) (at3 x y z j)) 2]? = some a)
  (p1:t ≠ 0) (p2:t < n) (p3:u ≠ 0) (p4:u < n) (p5:v ≠ 0) (p6:v < n):Rep w h X n a (.flt (best2 g (best2 g x y) z)):=by
 unfold argBest argBest argBest at hv
 unfold best2
 replace hv:(#[.float x t,.float y u,.float z v]:Array Value)[if g z (at3 x y z (if g y x = true then 1 else 0)) = true then 2 else if g y x = true then 1 else 0]? = some a:=hv
 cases h1:g y x with
 | true =>
  rw [h1,if_pos rfl] at hv
  rw [if_pos rfl]
  replace hv:(#[.float x t,.float y u,.float z v]:Array Value)[if g z y = true then 2 else 1]? = some a:=hv
  cases hz:g z y with
  | true => rw [hz] at hv;cases hv;exact .flt _ _ p5 p6
  | false => rw [hz] at hv;cases hv;exact .flt _ _ p3 p4
 | false =>
  rw [h1,if_neg Bool.false_ne_true] at hv
  rw [if_neg Bool.false_ne_true]
  replace hv:(#[.float x t,.float y u,.float z v]:Array Value)[if g z x = true then 2 else 0]? = some a:=hv
  cases hz:g z x with
  | true => rw [hz] at hv;cases hv;exact .flt _ _ p5 p6
  | false => rw [hz] at hv;cases hv;exact .flt _ _ p1 p2
theorem sumI_inv {p:PV} {l:List PV} {a z:Int} (h:sumI (p :: l) a = some z):∃ i,p = .int i ∧ small i = true ∧ small a = true ∧ sumI l (a + i) = some z:=by
 cases p <;> first | exact (nn h).elim | skip
 obtain ⟨q,h⟩:=if_then h
 exact ⟨_,rfl,(and_2 q).1,(and_2 q).2,h⟩
theorem joinS_inv {p:PV} {l:List PV} {z:List Nat} (h:joinS (p :: l) = some z):∃ x y,p = .str x ∧ joinS l = some y ∧ z = x ++ y:=by
 cases p <;> first | exact (nn h).elim | skip
 obtain ⟨y,hy,e⟩:=Option.map_eq_some_iff.mp h
 exact ⟨_,y,rfl,hy,e.symm⟩
theorem ints_sum {l:List PV}:∀ {vs:List Value} {a z:Int},Reps w s.heap X n vs l → sumI l a = some z → ∃ xs:List (Int × Tok),vs = xs.map (fun p => .int p.1 p.2) ∧ z = a + (xs.map (·.1)).sum:=by
 induction l with
 | nil => intro vs a z r e;cases e;exact ⟨[],r.nilE,(Int.add_zero _).symm⟩
 | cons p l ih =>
  intro vs a z r e
  obtain ⟨v,us,rfl,x,y⟩:=r.consE
  obtain ⟨i,rfl,_,_,e2⟩:=sumI_inv e
  obtain ⟨t,rfl⟩:=x.intE
  obtain ⟨xs,rfl,rfl⟩:=ih y e2
  exact ⟨(i,t) :: xs,rfl,Int.add_assoc ..⟩
theorem strs_join {l:List PV}:∀ {vs:List Value} {z:List Nat},Reps w s.heap X n vs l → joinS l = some z → ∃ xs:List (PySem.Str × Tok),vs = strValues xs ∧ ∃ ys:List (List Nat),xs.map (·.1) = ys.map k ∧ z = ys.flatten:=by
 induction l with
 | nil => intro vs z r e;cases e;exact ⟨[],r.nilE,[],rfl,rfl⟩
 | cons p l ih =>
  intro vs z r e
  obtain ⟨v,us,rfl,a,b⟩:=r.consE
  obtain ⟨x,y,rfl,e2,rfl⟩:=joinS_inv e
  obtain ⟨t,rfl⟩:=a.strE
  obtain ⟨xs,rfl,ys,h1,rfl⟩:=ih b e2
  exact ⟨(k x,t) :: xs,rfl,x :: ys,congrArg (k x :: ·) h1,rfl⟩
theorem join_flat:∀ ys:List (List Nat),Str.join (k []) (ys.map k) = k ys.flatten
 | [] => rfl
 | [y] => by simp [Str.join]
 | y :: z :: r => by
  have ih:=join_flat (z :: r)
  simp only [List.map_cons] at ih ⊢
  show k y ++ k [] ++ Str.join (k []) _ = _
  rw [ih,k_append,k_append]
  simp
theorem low_of (c:Nat) (h:c < 128):Unicode.lowerOf c = [lowC c]:=by
 have:∀ c:Fin 128,(Unicode.lowerOf c.val == [lowC c.val]) = true:=by
  have:(List.range 128).all (fun c => Unicode.lowerOf c == [lowC c]) = true:=by kernel_rfl
  intro c
  exact List.all_eq_true.mp this c.val (List.mem_range.mpr c.isLt)
 exact eq_of_beq (this ⟨c,h⟩)
noncomputable def biV:Bi → Value
 | .len => .builtin "len" | .chr => .builtin "chr" | .ord => .builtin "ord" | .int => .type "int" | .sum => .builtin "sum" | .max3 => .builtin "max" | .min3 => .builtin "min" | _ => .builtin "isinstance"
theorem bi_max {x y z:UInt64} {b c d:Value} (hA:A.handled = none) (ra:Rep w s.heap X s.toks b (.flt x)) (rb:Rep w s.heap X s.toks c (.flt y)) (rc:Rep w s.heap X s.toks d (.flt z)):Gives w A L X s (call (.builtin "max") [b,c,d]) (.flt (fmax (fmax x y) z)):=by
 intro Q E hQ
 obtain ⟨t,rfl,p1,p2⟩:=ra.fltE
 obtain ⟨u,rfl,p3,p4⟩:=rb.fltE
 obtain ⟨v,rfl,p5,p6⟩:=rc.fltE
 refine wpAny_with_toks (Nat.le_refl _) (call_max_three (three_it (prog:=pw) (w:=w) (s:=s) (A:=A.in1) (Q:=fun v s' => s.toks ≤ s'.toks → Q v s') (bt:=fun i j => fcmp (at3 x y z i) (at3 x y z j) == some .gt) hA (fun i j vi vj s Q E hi hj h => ?_) fun v h' tk hv hk ht => hQ _ _ (Ext.keep hk ht) ?_))
 ·obtain ⟨t,rfl⟩:=at3_of hi
  obtain ⟨u,rfl⟩:=at3_of hj
  exact AutoFloatOps.gt_0 h
 ·exact best_three (g:=fun i j => fcmp i j == some .gt) hv p1 (Nat.lt_of_lt_of_le p2 ht) p3 (Nat.lt_of_lt_of_le p4 ht) p5 (Nat.lt_of_lt_of_le p6 ht)
theorem bi_min {x y z:UInt64} {b c d:Value} (hA:A.handled = none) (ra:Rep w s.heap X s.toks b (.flt x)) (rb:Rep w s.heap X s.toks c (.flt y)) (rc:Rep w s.heap X s.toks d (.flt z)):Gives w A L X s (call (.builtin "min") [b,c,d]) (.flt (fmin (fmin x y) z)):=by
 intro Q E hQ
 obtain ⟨t,rfl,p1,p2⟩:=ra.fltE
 obtain ⟨u,rfl,p3,p4⟩:=rb.fltE
 obtain ⟨v,rfl,p5,p6⟩:=rc.fltE
 refine wpAny_with_toks (Nat.le_refl _) (call_min_three (three_it (prog:=pw) (w:=w) (s:=s) (A:=A.in1) (Q:=fun v s' => s.toks ≤ s'.toks → Q v s') (bt:=fun i j => fcmp (at3 x y z i) (at3 x y z j) == some .lt) hA (fun i j vi vj s Q E hi hj h => ?_) fun v h' tk hv hk ht => hQ _ _ (Ext.keep hk ht) ?_))
 ·obtain ⟨t,rfl⟩:=at3_of hi
  obtain ⟨u,rfl⟩:=at3_of hj
  exact AutoFloatOps.lt_0 h
 ·exact best_three (g:=fun i j => fcmp i j == some .lt) hv p1 (Nat.lt_of_lt_of_le p2 ht) p3 (Nat.lt_of_lt_of_le p4 ht) p5 (Nat.lt_of_lt_of_le p6 ht)
theorem bi_sum {l:List PV} {i:Int} {b:Value} (hA:A.handled = none) (hi:sumI l 0 = some i) (r:Rep w s.heap X s.toks b (.list l)):Gives w A L X s (call (.builtin "sum") [b]) (.int i):=by
 intro Q E hQ
 obtain ⟨a,vs,rfl,ha,hx,hr⟩:=r.listE
 obtain ⟨xs,rfl,rfl⟩:=ints_sum hr hi
 have hl:s.heap.IsList a (intItems xs.toArray):=by
  have:(intItems xs.toArray) = (xs.map (fun p => Value.int p.1 p.2)).toArray:=by simp [intItems]
  rw [this];exact ha
 refine wpAny_with_toks (Nat.le_refl _) (sum_intListG hA hl fun h' tk t' hk ht => ?_)
 rw [preSum_eq,List.take_of_length_le (by simp)]
 have:=Rep.int (w:=w) (h:=h') (X:=X) (n:=tk) (0 + (xs.map (·.1)).sum) t'
 exact hQ _ _ (Ext.keep hk ht) (by simpa using this)
theorem not_empty {r:List PV} {o:Option PV} {z:PV} (h:(if (!r.isEmpty) = true then none else o) = some z):r = [] ∧ o = some z:=by
 cases r with
 | nil => exact ⟨rfl,h⟩
 | cons => exact (nS h).elim
theorem Gives.tt {t:Sem Value} {v:Value} {z:PV} (h:∀ Q E,Q v { s with toks:=s.toks + 1 + 1 } → wpAny (model pw w) A t Q E s) (r:Rep w s.heap X (s.toks + 1 + 1) v z):Gives w A L X s t z :=
 fun Q E hQ => h Q E (hQ _ _ (Ext.toks L s (s.toks + 1 + 1) (Nat.le_succ_of_le (Nat.le_succ _))) r)
theorem flt3_ {f:Bi} {p:PV} {r:List PV} {z:PV} (h:biop f (p :: r) = some z) (hf:f = .max3 ∨ f = .min3):∃ x y q,p = .flt x ∧ r = [.flt y,.flt q]:=by
 rcases hf with rfl | rfl <;>
 ·cases p <;> first | exact (nn h).elim | skip
  cases r with
  | nil => exact (nn h).elim
  | cons p2 r =>
   cases r with
   | nil => cases p2 <;> exact (nn h).elim
   | cons p3 r =>
    cases p2 <;> first | exact (nn h).elim | skip
    cases p3 <;> first | exact (nn h).elim | skip
    cases r with
    | nil => exact ⟨_,_,_,rfl,rfl⟩
    | cons => exact (nn h).elim
theorem trunc_inv {u:UInt64} {i:Int} (h:truncI u = some i):∃ ng m e,Float64.decode u = .fin ng m e ∧ Float64.truncOf ng m e = i:=by
 unfold truncI at h
 generalize Float64.decode u = d at h
 cases d with
 | fin ng m e => exact ⟨_,_,_,rfl,Option.some.inj h⟩
 | _ => exact (nn h).elim
theorem snd_bi (hA:A.handled = none) (hpos:1 ≤ s.toks) {f:Bi} {vs:List Value} {ps:List PV} {z:PV} (hf:f ≠ .isStr ∧ f ≠ .join ∧ f ≠ .lower ∧ f ≠ .get1) (h:biop f ps = some z) (hr:Reps w s.heap X s.toks vs ps) :
  Gives w A L X s (call (biV f) vs) z:=by
 cases ps with
 | nil => exact (nS h).elim
 | cons p r =>
 obtain ⟨v,us,rfl,a,b⟩:=hr.consE
 have one:∀ {o},(if (!r.isEmpty) = true then none else o) = some z → us = [] ∧ o = some z:=fun h => by
  obtain ⟨rfl,h⟩:=not_empty h
  exact ⟨b.nilE,h⟩
 cases f
 ·obtain ⟨rfl,h⟩:=one h
  cases p <;> first | exact (nn h).elim | skip
  ·obtain ⟨q,rfl⟩:=if_some h
   obtain ⟨t,rfl⟩:=a.strE
   have:=lim_iff.mp q
   exact Gives.tt (fun Q E h => len_str (by rw [k_length];lia) (by rw [k_length];exact h)) (.int _ _)
  ·obtain ⟨q,rfl⟩:=if_some h
   obtain ⟨a,vs,rfl,ha,_,hr⟩:=a.listE
   have:=lim_iff.mp q
   have hl:=hr.length
   exact Gives.tt (fun Q E h => PySem.Calls.call_len_list ha (by rw [List.size_toArray];lia) (by rw [List.size_toArray,hl];exact h)) (.int _ _)
 ·obtain ⟨rfl,h⟩:=one h
  cases p <;> first | exact (nn h).elim | skip
  obtain ⟨q,rfl⟩:=if_some h
  obtain ⟨q1,q2⟩:=and_2 q
  obtain ⟨t,rfl⟩:=a.intE
  exact Gives.t (fun Q E p => chr_of_range (of_decide_eq_true q1) (Int.le_of_lt_add_one (of_decide_eq_true q2)) p) (.str [_] _)
 ·obtain ⟨rfl,h⟩:=one h
  cases p <;> first | exact (nn h).elim | skip
  rename_i l _
  cases l with
  | nil => exact (nn h).elim
  | cons c l =>
   cases l with
   | nil =>
    obtain rfl:=Option.some.inj h
    obtain ⟨t,rfl⟩:=a.strE
    exact Gives.t (fun Q E p => P.ord_of_char p) (.int _ _)
   | cons => exact (nn h).elim
 ·obtain ⟨rfl,h⟩:=one h
  cases p <;> first | exact (nn h).elim | skip
  obtain ⟨i,hi,h⟩:=Option.bind_eq_some_iff.mp h
  obtain ⟨q,rfl⟩:=if_some h
  obtain ⟨t,rfl,_⟩:=a.fltE
  obtain ⟨ng,m,ex,hd,rfl⟩:=trunc_inv hi
  exact Gives.t (fun Q E p => call_int_float hd p) (.int _ _)
 ·obtain ⟨rfl,h⟩:=one h
  cases p <;> first | exact (nn h).elim | skip
  obtain ⟨i,hi,rfl⟩:=Option.map_eq_some_iff.mp h
  exact bi_sum hA hi a
 ·obtain ⟨x,y,q,rfl,rfl⟩:=flt3_ h (by decide)
  obtain ⟨v2,us,rfl,a2,b⟩:=b.consE
  obtain ⟨v3,rfl,a3⟩:=b.oneE
  obtain rfl:=Option.some.inj h
  exact bi_max hA a a2 a3
 ·obtain ⟨x,y,q,rfl,rfl⟩:=flt3_ h (by decide)
  obtain ⟨v2,us,rfl,a2,b⟩:=b.consE
  obtain ⟨v3,rfl,a3⟩:=b.oneE
  obtain rfl:=Option.some.inj h
  exact bi_min hA a a2 a3
 ·exact absurd rfl hf.1
 ·exact absurd rfl hf.2.1
 ·exact absurd rfl hf.2.2.1
 ·exact absurd rfl hf.2.2.2
end
end
section
noncomputable def fnms:List PySem.Str:=[k [95,105,116,101,114,95,101,115,99,97,112,101,100,95,99,104,97,114,115],k [95,115,116,114,105,112,95,113,117,111,116,101,100,95,114,101,97,108,110,97,109,101,115],
 k [95,99,104,101,99,107,95,112,97,114,101,110,116,104,101,115,105,115],k [114,103,98,95,116,111,95,104,108,115],k [114,103,98,95,116,111,95,104,115,118],k [104,115,118,95,116,111,95,114,103,98],
 k [105,110,95,116,97,98,108,101,95,98,49],k [109,97,112,95,116,97,98,108,101,95,98,51],k [73,83,84,69,82,77,73,78,65,76],k [73,83,78,79,78,84,69,82,77,73,78,65,76],
 k [95,108,97,119,95,100,114,97,119,110],k [95,108,97,119,95,115,121,109,98,111,108,115],k [95,108,97,119,95,114,101,97,100],k [95,108,97,119,95,116,114,105,97,110,103,108,101,115],
 k [95,108,97,119,95,109,105,120],k [95,108,97,119,95,112,97,105,110,116,101,100],k [95,108,97,119,95,119,97,121,115],k [108,97,119]]
noncomputable def fAs:List Addr:=[21,28,35,42,49,56,74,120,130,137,144,151,156,163,170,177,182,187]
noncomputable def fnm (f:Nat):PySem.Str:=fnms.getD f (k [])
noncomputable def fA (f:Nat):Addr:=fAs.getD f 0
noncomputable def isRefOf (a:Addr) (v:Option Value):Bool:=(v.bind (vRef fun b => if a == b then some () else none)).isSome
theorem fn_glob1 (P:Params):(List.range 18).all (fun f => isRefOf (fA f) (nsAt P mainGlobals (fnm f))) = true:=by kernel_rfl
theorem isRefOf_iff {a:Addr} {v:Option Value} (h:isRefOf a v = true):v = some (.ref a):=by
 obtain ⟨_,h⟩:=Option.isSome_iff_exists.mp h
 obtain ⟨v,rfl,h⟩:=Option.bind_eq_some_iff.mp h
 obtain ⟨b,rfl,h⟩:=vRef_ h
 rw [eq_of_beq (if_some h).1]
theorem fn_glob (P:Params) {f:Nat} (h:f < 18):nsAt P mainGlobals (fnm f) = some (.ref (fA f)):=isRefOf_iff (List.all_eq_true.mp (fn_glob1 P) f (List.mem_range.mpr h))
noncomputable def glN:Gl → PySem.Str
 | .b1 => k [98,49,95,115,101,116]
 | .b3 => k [98,51,95,101,120,99,101,112,116,105,111,110,115]
 | .tok => k [69,88,65,67,84,95,84,79,75,69,78,95,84,89,80,69,83]
theorem gl_glob1 (P:Params):(([Gl.b1,.b3,.tok]).all fun g => isRefOf (glA g) (nsAt P mainGlobals (glN g))) = true:=by kernel_rfl
theorem gl_glob (P:Params) (g:Gl):nsAt P mainGlobals (glN g) = some (.ref (glA g)):=isRefOf_iff (List.all_eq_true.mp (gl_glob1 P) g (by cases g <;> simp))
noncomputable def ntN:PySem.Str:=k [78,84,95,79,70,70,83,69,84]
theorem nt_glob (P:Params):∃ t,nsAt P mainGlobals ntN = some (.int 256 t):=by
 have h:((nsAt P mainGlobals ntN).bind (vInt fun i => if i == 256 then some () else none)).isSome = true:=by kernel_rfl
 obtain ⟨_,h⟩:=Option.isSome_iff_exists.mp h
 obtain ⟨v,e,h⟩:=Option.bind_eq_some_iff.mp h
 obtain ⟨i,t,rfl,h⟩:=vInt_ h
 exact ⟨t,eq_of_beq (if_some h).1 ▸ e⟩
noncomputable def biN:Bi → PySem.Str
 | .len => k [108,101,110] | .chr => k [99,104,114] | .ord => k [111,114,100] | .int => k [105,110,116] | .sum => k [115,117,109] | .max3 => k [109,97,120] | .min3 => k [109,105,110] | _ => k [105,115,105,110,115,116,97,110,99,101]
noncomputable def rangeN:PySem.Str:=k [114,97,110,103,101]
noncomputable def enumN:PySem.Str:=k [101,110,117,109,101,114,97,116,101]
noncomputable def strN:PySem.Str:=k [115,116,114]
noncomputable def bT:Value → Option (Bool × String)
 | .builtin x => some (true,x)
 | .type x => some (false,x)
 | _ => none
theorem bT_inv {u:Value} {q:Bool × String} (h:bT u = some q):u = if q.1 then .builtin q.2 else .type q.2:=by
 cases u <;> first | exact (nn h).elim | (obtain rfl:=Option.some.inj h;rfl)
noncomputable def isV (v:Value) (o:Option Value):Bool:=(bT v).isSome && (o.bind bT == bT v)
theorem isV_iff {v:Value} {o:Option Value} (h:isV v o = true):o = some v:=by
 obtain ⟨h1,h2⟩:=and_2 h
 obtain ⟨q,hq⟩:=Option.isSome_iff_exists.mp h1
 obtain ⟨u,rfl,hu⟩:=Option.bind_eq_some_iff.mp ((beq_iff_eq.mp h2).trans hq)
 rw [bT_inv hu,bT_inv hq]
noncomputable def bi8:List Bi:=[.len,.chr,.ord,.int,.sum,.max3,.min3,.isStr]
noncomputable def biL:List (PySem.Str × Value):=bi8.map (fun f => (biN f,biV f)) ++ [(rangeN,.type "range"),(enumN,.type "enumerate"),(strN,.type "str")]
theorem biL_range:(rangeN,.type "range") ∈ biL:=List.mem_append_right _ (.head _)
theorem biL_enum:(enumN,.type "enumerate") ∈ biL:=List.mem_append_right _ (.tail _ (.head _))
theorem biL_str:(strN,.type "str") ∈ biL:=List.mem_append_right _ (.tail _ (.tail _ (.head _)))
theorem bi_glob1 (P:Params):biL.all (fun q => isV q.2 (nsAt P builtinsNs q.1) && (nsAt P mainGlobals q.1).isNone) = true:=by kernel_rfl
theorem bi_glob (P:Params) {x:PySem.Str} {v:Value} (h:(x,v) ∈ biL):nsAt P builtinsNs x = some v ∧ nsAt P mainGlobals x = none:=by
 have:=List.all_eq_true.mp (bi_glob1 P) _ h
 rw [Bool.and_eq_true] at this
 exact ⟨isV_iff this.1,Option.isNone_iff_eq_none.mp this.2⟩
section
variable {w:World} {A:Around} {penv:Env} {G:List PySem.Str} {R:List (PySem.Str × Nat)} {N:Nat} {E:Value → Shared → Prop} {s:Shared}
theorem load_glob (S:Stat penv G R N) (I:(KF w.params).In s.heap) {x:PySem.Str} {v:Value} {pos:Pos} {Q:Value → Shared → Prop} (hx:x ∈ G) (e:nsAt w.params mainGlobals x = some v) (q:Q v s) (hd:(x == ("__debug__" : PySem.Str)) = false) :
  wpAny (model pw w) A (eval (.Name x pos) penv) Q E s :=
 Calls.Name_function_global S.fn (S.gs x hx) (Calls.loadGlobal_global (by rw [S.glob];exact ns_of I (by decide) (nsOk1 _)) e q) hd
theorem load_bi (S:Stat penv G R N) (I:(KF w.params).In s.heap) {x:PySem.Str} {v:Value} {pos:Pos} {Q:Value → Shared → Prop} (hx:x ∈ G) (h:(x,v) ∈ biL) (q:Q v s) (hd:(x == ("__debug__" : PySem.Str)) = false) :
  wpAny (model pw w) A (eval (.Name x pos) penv) Q E s :=
 Calls.Name_function_global S.fn (S.gs x hx) (Calls.loadGlobal_builtin (by rw [S.glob];exact ns_of I (by decide) (nsOk1 _)) (bi_glob _ h).2 (by rw [S.bi];exact ns_of I (by decide) (nsOk2 _)) (bi_glob _ h).1 q) hd
end
noncomputable def bopOk (a:Bop) (o:Operator):Bool:=decide (o = boOf a)
theorem bopOk_mem {a:Bop} {b:Operator} (h:bopOk a b = true):b = boOf a:=of_decide_eq_true h
noncomputable def copOk (a:Cop) (o:CmpOp):Bool:=decide (o = coOf a)
theorem copOk_mem {a:Cop} {b:CmpOp} (h:copOk a b = true):b = coOf a:=of_decide_eq_true h
noncomputable def freeOk (sc:Scope) (x:PySem.Str) (K:List PySem.Str):Bool :=
 sc.kind == .function && !sc.isCoroutine && sc.names.all (fun p => p.2 != .cell) && sc.names.all (fun p => p.2 != .local || sc.names.lookup p.1 == some .local) && (sc.names.lookup x == some .local) && !(x == ("__debug__" : PySem.Str))
  && sc.names.all (fun p => p.2 != .free || ((sc.names.lookup p.1 == some .free) && K.contains p.1)) && sc.names.all fun p => p.2 != .globalImplicit || sc.names.lookup p.1 == some .globalImplicit
noncomputable def gOf (sc:Scope):List PySem.Str:=(sc.names.filter (·.2 == .globalImplicit)).map (·.1)
noncomputable def rOf (sc:Scope) (R:List (PySem.Str × Nat)):List (PySem.Str × Nat):=R.filter fun p => sc.names.lookup p.1 == some .free
set_option genInjectivity false in
structure V where
 tag:Nat:=0
 a:Expr:=default
 b:Expr:=default
 c:Expr:=default
 oa:Option Expr:=none
 ob:Option Expr:=none
 oc:Option Expr:=none
 es:List Expr:=[]
 os:List (Option Expr):=[]
 s:PySem.Str:=k []
 o:Operator:=.Add
 u:UnaryOp:=.Not
 bo:BoolOp:=.And
 cs:List CmpOp:=[]
 ks:List Keyword:=[]
 gs:List Comprehension:=[]
 sc:Scope:=default
 cst:Const:=.none
 kd:Nat:=0
 p:Pos:=default
noncomputable def view:Expr → V
 | .Constant c k p => { tag:=1,cst:=c,kd:=k,p:=p }
 | .Name s p => { tag:=2,s:=s,p:=p }
 | .BinOp a o b p => { tag:=3,a:=a,o:=o,b:=b,p:=p }
 | .Compare a cs es p => { tag:=4,a:=a,cs:=cs,es:=es,p:=p }
 | .UnaryOp u a p => { tag:=5,u:=u,a:=a,p:=p }
 | .IfExp c a b p => { tag:=6,c:=c,a:=a,b:=b,p:=p }
 | .Subscript a b p => { tag:=7,a:=a,b:=b,p:=p }
 | .Slice a b c p => { tag:=8,oa:=a,ob:=b,oc:=c,p:=p }
 | .Tuple es k p => { tag:=9,es:=es,kd:=k,p:=p }
 | .List es p => { tag:=10,es:=es,p:=p }
 | .Call a es ks p => { tag:=11,a:=a,es:=es,ks:=ks,p:=p }
 | .Dict os es p => { tag:=12,os:=os,es:=es,p:=p }
 | .Attribute a s p => { tag:=13,a:=a,s:=s,p:=p }
 | .ListComp a gs sc p => { tag:=14,a:=a,gs:=gs,sc:=sc,p:=p }
 | .BoolOp bo es p => { tag:=15,bo:=bo,es:=es,p:=p }
 | .Yield a p => { tag:=16,oa:=a,p:=p }
 | .Starred a p => { tag:=17,a:=a,p:=p }
 | .Set .. => { tag:=18 }
 | .SetComp .. => { tag:=19 }
 | .DictComp .. => { tag:=20 }
 | _ => {}
noncomputable def Sp (e:Expr) (v:V):Nat → Prop
 | 1 => e = .Constant v.cst v.kd v.p
 | 2 => e = .Name v.s v.p
 | 3 => e = .BinOp v.a v.o v.b v.p
 | 4 => e = .Compare v.a v.cs v.es v.p
 | 5 => e = .UnaryOp v.u v.a v.p
 | 6 => e = .IfExp v.c v.a v.b v.p
 | 7 => e = .Subscript v.a v.b v.p
 | 8 => e = .Slice v.oa v.ob v.oc v.p
 | 9 => e = .Tuple v.es v.kd v.p
 | 10 => e = .List v.es v.p
 | 11 => e = .Call v.a v.es v.ks v.p
 | 12 => e = .Dict v.os v.es v.p
 | 13 => e = .Attribute v.a v.s v.p
 | 14 => e = .ListComp v.a v.gs v.sc v.p
 | 15 => e = .BoolOp v.bo v.es v.p
 | _ => True
theorem sp (e:Expr):Sp e (view e) (view e).tag:=by cases e <;> first | rfl | trivial
noncomputable def isT (t:Nat) (e:Expr):Bool:=Nat.beq (view e).tag t
theorem isT_ {t:Nat} {e:Expr} (h:isT t e = true):Sp e (view e) t:=Nat.eq_of_beq_eq_true h ▸ sp e
section
variable {α:Type} [Inhabited α] {l:List α} {e:Expr} {m x:PySem.Str} {op:Cop}
noncomputable def hd (l:List α):α:=l.headD default
noncomputable def hd2 (l:List α):α:=hd l.tail
noncomputable def isOne (l:List α):Bool:=Nat.beq l.length 1
noncomputable def isTwo (l:List α):Bool:=Nat.beq l.length 2
theorem cons_hd (h:(!l.isEmpty) = true):l = hd l :: l.tail:=match l,h with
 | _ :: _,_ => rfl
theorem isOne_ (h:isOne l = true):l = [hd l]:=match l,h with
 | [_],_ => rfl
theorem isTwo_ (h:isTwo l = true):l = [hd l,hd2 l]:=match l,h with
 | [_,_],_ => rfl
noncomputable def isNm (x:PySem.Str) (e:Expr):Bool:=isT 2 e && (view e).s == x
theorem isNm_ (h:isNm x e = true):e = .Name x (view e).p:=(eq_of_beq (and_2 h).2) ▸ isT_ (t:=2) (and_2 h).1
noncomputable def isC (x:PySem.Str) (e:Expr):Bool:=isT 11 e && isNm x (view e).a && (view e).ks.isEmpty
theorem isC_ (h:isC x e = true):e = .Call (.Name x (view (view e).a).p) (view e).es [] (view e).p:=by
 obtain ⟨h1,h2,h3⟩:=and_3 h
 rw [← isNm_ h2,← List.isEmpty_iff.mp h3];exact isT_ h1
noncomputable def mO (e:Expr):Expr:=(view (view e).a).a
noncomputable def isM (m:PySem.Str) (e:Expr):Bool:=isT 11 e && isT 13 (view e).a && (view e).ks.isEmpty && (view (view e).a).s == m && (view (view e).a).p.endLine == (view e).p.line
theorem isM_ (h:isM m e = true):e = .Call (.Attribute (mO e) m (view (view e).a).p) (view e).es [] (view e).p ∧ ((view (view e).a).p.endLine == (view e).p.line) = true:=by
 obtain ⟨h1,h2,h3,h4,h5⟩:=and_5 h
 refine ⟨?_,h5⟩
 rw [← eq_of_beq h4,← List.isEmpty_iff.mp h3,← show (view e).a = .Attribute (mO e) _ _ from isT_ h2];exact isT_ h1
noncomputable def isCmp (op:Cop) (e:Expr):Bool:=isT 4 e && isOne (view e).cs && isOne (view e).es && copOk op (hd (view e).cs) && !behindInMarks (coOf op) (hd (view e).es)
theorem isCmp_ (h:isCmp op e = true):e = .Compare (view e).a [coOf op] [hd (view e).es] (view e).p ∧ behindInMarks (coOf op) (hd (view e).es) = false:=by
 obtain ⟨h1,h2,h3,h4,h5⟩:=and_5 h
 refine ⟨?_,by rwa [Bool.not_eq_true'] at h5⟩
 rw [← copOk_mem h4,← isOne_ h2,← isOne_ h3];exact isT_ h1
end
noncomputable def isK (c:Const) (e:Expr):Bool:=isT 1 e && decide ((view e).cst = c)
theorem isK_ {c:Const} {e:Expr} (h:isK c e = true):e = .Constant c (view e).kd (view e).p:=(of_decide_eq_true (and_2 h).2) ▸ isT_ (t:=1) (and_2 h).1
noncomputable def notStar (e:Expr):Bool:=!isT 17 e
noncomputable def notSlice (e:Expr):Bool:=!isT 8 e
noncomputable def notSet (e:Expr):Bool:=!isT 18 e
noncomputable def notComp (e:Expr):Bool:=!(isT 14 e || isT 19 e || isT 20 e)
noncomputable def plainT (e:Expr):Bool:=isT 2 e || isT 11 e
noncomputable def isFls (es:List Expr):List UInt64 → Bool
 | [] => es.isEmpty
 | u :: l => !es.isEmpty && isK (.float u) (hd es) && isFls es.tail l
noncomputable def isFT (e:Expr) (l:List UInt64):Bool:=isT 9 e && isFls (view e).es l && Nat.blt l.length 1000
noncomputable def cG (e:Expr):Comprehension:=hd (view e).gs
noncomputable def cX (e:Expr):PySem.Str:=(view (cG e).target).s
noncomputable def isLC (e:Expr):Bool:=isT 14 e && isOne (view e).gs && isT 2 (cG e).target && decide ((cG e).is_async = 0)
theorem comp_eta (g:Comprehension):g = ⟨g.target,g.iter,g.ifs,g.is_async⟩:=by cases g;rfl
theorem isLC_ {e:Expr} (h:isLC e = true):e = .ListComp (view e).a [⟨.Name (cX e) (view (cG e).target).p,(cG e).iter,(cG e).ifs,0⟩] (view e).sc (view e).p:=by
 obtain ⟨h1,h2,h3,h4⟩:=and_4 h
 rw [← of_decide_eq_true h4,← show (cG e).target = .Name (cX e) _ from isT_ h3,← show (view e).gs = [⟨(cG e).target,(cG e).iter,(cG e).ifs,(cG e).is_async⟩] from (isOne_ h2).trans (congrArg (fun g => [g]) (comp_eta _))];exact isT_ h1
noncomputable def bi7:List Bi:=[.len,.chr,.ord,.int,.sum,.max3,.min3]
mutual
noncomputable def chkE:Nat → List PySem.Str → List PySem.Str → List (PySem.Str × Nat) → Expr → E → Bool
 | 0,_,_,_,_,_ => false
 | n + 1,G,K,R,x,e => match e with
  | .none => isK .none x
  | .bool b => isK (.bool b) x
  | .int i => isK (.int i) x
  | .flt u => isK (.float u) x
  | .str s => isK (.str (k s)) x
  | .var i => isT 2 x && R.lookup (view x).s == some i
  | .nt => isNm ntN x && G.contains ntN
  | .gl g => isNm (glN g) x && G.contains (glN g)
  | .bin op a b => isT 3 x && bopOk op (view x).o && chkE n G K R (view x).a a && chkE n G K R (view x).b b
  | .cmp op a b => isCmp op x && chkE n G K R (view x).a a && chkE n G K R (hd (view x).es) b
  | .notv a => isT 5 x && decide ((view x).u = .Not) && chkE n G K R (view x).a a
  | .ife t a b => isT 6 x && chkT n G K R (view x).c t && chkE n G K R (view x).a a && chkE n G K R (view x).b b
  | .idx a i => isT 7 x && notSlice (view x).b && chkE n G K R (view x).a a && chkE n G K R (view x).b i
  | .idxv v i => isT 7 x && isT 2 (view x).a && R.lookup (view (view x).a).s == some v && notSlice (view x).b && chkE n G K R (view x).b i
  | .slc a lo hi => match a with
   | .var i => isT 7 x && (isT 2 (view x).a && R.lookup (view (view x).a).s == some i) && (isT 8 (view x).b && (view (view x).b).oc.isNone) && chkO n G K R (view (view x).b).oa lo && chkO n G K R (view (view x).b).ob hi
   | _ => false
  | .tup l => isT 9 x && Nat.blt l.length 1000 && chkL n G K R (view x).es l
  | .lst l => isT 10 x && Nat.blt l.length 1000 && chkL n G K R (view x).es l
  | .call f l d => isC (fnm f) x && Nat.blt 0 f && Nat.blt f 18 && G.contains (fnm f) && match d with
   | none => !(view x).es.isEmpty && chkL n G K R (view x).es l
   | some d => isTwo (view x).es && isT 12 (hd2 (view x).es) && (Nat.blt d.length 15 && !d.isEmpty) && chkL n G K R [hd (view x).es] l && chkD n G K R (view (hd2 (view x).es)).os (view (hd2 (view x).es)).es d
  | .bi f l => if bi7.contains f then isC (biN f) x && G.contains (biN f) && !(view x).es.isEmpty && chkL n G K R (view x).es l else match f with
   | .isStr => isC (biN .isStr) x && G.contains (biN .isStr) && isTwo (view x).es && (isNm strN (hd2 (view x).es) && G.contains strN) && chkL n G K R [hd (view x).es] l
   | .join => isM ("join" : PySem.Str) x && isK (.str (k [])) (mO x) && isOne (view x).es && chkL n G K R [hd (view x).es] l
   | .lower => isM ("lower" : PySem.Str) x && isT 2 (mO x) && (view x).es.isEmpty && chkL n G K R [mO x] l
   | .get1 => isM ("get" : PySem.Str) x && isNm (glN .b3) (mO x) && G.contains (glN .b3) && isOne (view x).es && chkL n G K R [hd (view x).es] l
   | _ => false
  | .getv v a b => isM ("get" : PySem.Str) x && (isT 2 (mO x) && R.lookup (view (mO x)).s == some v) && (isTwo (view x).es && notStar (hd (view x).es) && notStar (hd2 (view x).es)) && chkE n G K R (hd (view x).es) a && chkE n G K R (hd2 (view x).es) b
  | .sumv v => isC (biN .sum) x && G.contains (biN .sum) && isOne (view x).es && (isM ("values" : PySem.Str) (hd (view x).es) && (view (hd (view x).es)).es.isEmpty) && (isT 2 (mO (hd (view x).es)) && R.lookup (view (mO (hd (view x).es))).s == some v)
  | .comp elt v it cond => isLC x && (freeOk (view x).sc (cX x) K && !(R.map (·.2)).contains v) && chkI n G K R (cG x).iter it &&
    chkTs n (gOf (view x).sc) [] ((cX x,v) :: rOf (view x).sc R) (cG x).ifs cond && chkE n (gOf (view x).sc) [] ((cX x,v) :: rOf (view x).sc R) (view x).a elt
noncomputable def chkL:Nat → List PySem.Str → List PySem.Str → List (PySem.Str × Nat) → List Expr → List E → Bool
 | 0,_,_,_,_,_ => false
 | n + 1,G,K,R,xs,es => match es with
  | [] => xs.isEmpty
  | e :: es => !xs.isEmpty && notStar (hd xs) && chkE n G K R (hd xs) e && chkL n G K R xs.tail es
noncomputable def chkD:Nat → List PySem.Str → List PySem.Str → List (PySem.Str × Nat) → List (Option Expr) → List Expr → List (E × E) → Bool
 | 0,_,_,_,_,_,_ => false
 | n + 1,G,K,R,ks,vs,es => match es with
  | [] => ks.isEmpty && vs.isEmpty
  | (c,d) :: es => (!ks.isEmpty && !vs.isEmpty && (hd ks).isSome) && chkE n G K R ((hd ks).getD default) c && chkE n G K R (hd vs) d && chkD n G K R ks.tail vs.tail es
noncomputable def chkO:Nat → List PySem.Str → List PySem.Str → List (PySem.Str × Nat) → Option Expr → Option E → Bool
 | 0,_,_,_,_,_ => false
 | n + 1,G,K,R,x,e => match e with
  | none => x.isNone
  | some e => x.isSome && chkE n G K R (x.getD default) e
noncomputable def chkT:Nat → List PySem.Str → List PySem.Str → List (PySem.Str × Nat) → Expr → T → Bool
 | 0,_,_,_,_,_ => false
 | n + 1,G,K,R,x,t => match t with
  | .not t => isT 5 x && decide ((view x).u = .Not) && chkT n G K R (view x).a t
  | .and l => isT 15 x && decide ((view x).bo = .And) && chkTs n G K R (view x).es l
  | .or l => isT 15 x && decide ((view x).bo = .Or) && chkTs n G K R (view x).es l
  | .cmp op a b => isCmp op x && chkE n G K R (view x).a a && chkE n G K R (hd (view x).es) b
  | .neF a t l r => isCmp .ne x && chkE n G K R (view x).a a && match t with
   | none => isFT (hd (view x).es) l
   | some t => isT 6 (hd (view x).es) && isFT (view (hd (view x).es)).a l && isFT (view (hd (view x).es)).b r && chkT n G K R (view (hd (view x).es)).c t
  | .val e => plainT x && chkE n G K R x e
noncomputable def chkTs:Nat → List PySem.Str → List PySem.Str → List (PySem.Str × Nat) → List Expr → List T → Bool
 | 0,_,_,_,_,_ => false
 | n + 1,G,K,R,xs,es => match es with
  | [] => xs.isEmpty
  | e :: es => !xs.isEmpty && chkT n G K R (hd xs) e && chkTs n G K R xs.tail es
noncomputable def chkI:Nat → List PySem.Str → List PySem.Str → List (PySem.Str × Nat) → Expr → It → Bool
 | 0,_,_,_,_,_ => false
 | n + 1,G,K,R,x,it => match it with
  | .range a => isC rangeN x && G.contains rangeN && isOne (view x).es && notStar (hd (view x).es) && chkE n G K R (hd (view x).es) a
  | .range2 a c => isC rangeN x && G.contains rangeN && (isTwo (view x).es && notStar (hd (view x).es) && notStar (hd2 (view x).es)) && chkE n G K R (hd (view x).es) a && chkE n G K R (hd2 (view x).es) c
  | .gen a => isC (fnm 0) x && G.contains (fnm 0) && isOne (view x).es && notStar (hd (view x).es) && chkE n G K R (hd (view x).es) a
  | .val e => notSet x && chkE n G K R x e
end
theorem some_get {α:Type} [Inhabited α] {o:Option α} (h:o.isSome = true):o = some (o.getD default):=match o,h with
 | some _,_ => rfl
set_option genInjectivity false in
structure VS where
 tag:Nat:=0
 a:Expr:=default
 b:Expr:=default
 o:Operator:=.Add
 ts:List Expr:=[]
 oe:Option Expr:=none
 bs:List Stmt:=[]
 cs:List Stmt:=[]
 p:Pos:=default
noncomputable def viewS:Stmt → VS
 | .Assign ts a p => { tag:=1,ts:=ts,a:=a,p:=p }
 | .AugAssign a o b p => { tag:=2,a:=a,o:=o,b:=b,p:=p }
 | .Expr a p => { tag:=3,a:=a,p:=p }
 | .If a bs cs p => { tag:=4,a:=a,bs:=bs,cs:=cs,p:=p }
 | .For a b bs cs p => { tag:=5,a:=a,b:=b,bs:=bs,cs:=cs,p:=p }
 | .While a bs cs p => { tag:=6,a:=a,bs:=bs,cs:=cs,p:=p }
 | .Return oe p => { tag:=7,oe:=oe,p:=p }
 | _ => {}
noncomputable def SpS (e:Stmt) (v:VS):Nat → Prop
 | 1 => e = .Assign v.ts v.a v.p
 | 2 => e = .AugAssign v.a v.o v.b v.p
 | 3 => e = .Expr v.a v.p
 | 4 => e = .If v.a v.bs v.cs v.p
 | 5 => e = .For v.a v.b v.bs v.cs v.p
 | 6 => e = .While v.a v.bs v.cs v.p
 | 7 => e = .Return v.oe v.p
 | _ => True
theorem spS (e:Stmt):SpS e (viewS e) (viewS e).tag:=by cases e <;> first | rfl | trivial
noncomputable def isS (t:Nat) (e:Stmt):Bool:=Nat.beq (viewS e).tag t
theorem isS_ {t:Nat} {e:Stmt} (h:isS t e = true):SpS e (viewS e) t:=Nat.eq_of_beq_eq_true h ▸ spS e
end
section
structure Chg (W:Addr → Prop) (Gw:Nat → Prop) (s s':Shared):Prop where
 heap:∀ b o,¬ W b → s.heap.get? b = some o → s'.heap.get? b = some o
 gens:∀ (i:Nat) (x:GenState),¬ Gw i → s.gens[i]? = some x → s'.gens[i]? = some x
 fin:∀ (i:Nat) (x:GenState),s'.gens[i]? = some x → s.gens[i]? = some x ∨ x.bare = true
 os:s'.os = s.os
 tk:s.toks ≤ s'.toks
structure Later (K:Addr → Prop) (s s₁:Shared):Prop where
 heap:∀ b o,K b → s.heap.get? b = some o → s₁.heap.get? b = some o
 gens:∀ (i:Nat) (x:GenState),s.gens[i]? = some x → s₁.gens[i]? = some x
 tk:s.toks ≤ s₁.toks
theorem Chg.refl {W:Addr → Prop} {Gw:Nat → Prop} (s:Shared):Chg W Gw s s:=⟨fun _ _ _ e => e,fun _ _ _ e => e,fun _ _ e => .inl e,rfl,Nat.le_refl _⟩
theorem Chg.trans {W W':Addr → Prop} {Gw Gw':Nat → Prop} {s s₁ s₂:Shared} (a:Chg W Gw s s₁) (b:Chg W' Gw' s₁ s₂) (hW:∀ b,W' b → W b ∨ s.heap.get? b = none) (hG:∀ i,Gw' i → Gw i ∨ s.gens[i]? = none):Chg W Gw s s₂ :=
 ⟨fun c o h e => b.heap c o (fun q => by rcases hW c q with q | q;exact h q;rw [q] at e;cases e) (a.heap c o h e),
 fun i x h e => b.gens i x (fun q => by rcases hG i q with q | q;exact h q;rw [q] at e;cases e) (a.gens i x h e),fun i x e => (b.fin i x e).elim (fun e => a.fin i x e) .inr,b.os.trans a.os,Nat.le_trans a.tk b.tk⟩
theorem Chg.mono {W W':Addr → Prop} {Gw Gw':Nat → Prop} {s s':Shared} (a:Chg W Gw s s') (hW:∀ b,W b → W' b ∨ s.heap.get? b = none) (hG:∀ i,Gw i → Gw' i ∨ s.gens[i]? = none):Chg W' Gw' s s' :=
 (Chg.refl s).trans a hW hG
noncomputable def noA (_:Addr):Prop:=False
noncomputable def noG (_:Nat):Prop:=False
theorem Ext.chg {L:Addr} {s s':Shared} (x:Ext L s s'):Chg (· = L) noG s s':=⟨fun b o h e => x.heap b o h e,fun i y _ e => x.gens i y e,x.fin,x.os,x.tk⟩
theorem Chg.ext {L:Addr} {s s':Shared} (x:Chg noA noG s s'):Ext L s s' :=
 ⟨fun b o _ e => x.heap b o id e,fun _ ⟨o,es,ep,e,r⟩ => ⟨o,es,ep,x.heap _ _ id e,r⟩,fun i y e => x.gens i y id e,x.fin,x.os,x.tk⟩
theorem Chg.push {W:Addr → Prop} {Gw:Nat → Prop} (s:Shared) (o:Obj):Chg W Gw s { s with heap:=s.heap.push o }:=⟨fun _ _ _ e => Heap.get?_push_of_some o e,fun _ _ _ e => e,fun _ _ e => .inl e,rfl,Nat.le_refl _⟩
theorem Later.refl {K:Addr → Prop} (s:Shared):Later K s s:=⟨fun _ _ _ e => e,fun _ _ e => e,Nat.le_refl _⟩
theorem Later.trans {K:Addr → Prop} {s s₁ s₂:Shared} (a:Later K s s₁) (b:Later K s₁ s₂):Later K s s₂ :=
 ⟨fun c o h e => b.heap c o h (a.heap c o h e),fun i x e => b.gens i x (a.gens i x e),Nat.le_trans a.tk b.tk⟩
noncomputable def QuietIt (w:World) (s:Shared) (it v:Value):Prop:=∀ (A:Around) (Q:Unit → Shared → Prop) (E:Value → Shared → Prop) (target:Expr),Q () s → wpAny (model pw w) A (letOwnedTupleGo target it v) Q E s
noncomputable def ownTups:List String:=["enumerate","zip","dict_itemiterator","dict_reverseitemiterator","odict_iterator","itertools.zip_longest","itertools.pairwise"]
set_option backward.match.sparseCases true in
theorem quiet_of {w:World} {s:Shared} {I:Addr} {o:Obj} {n:String} {v:Value} (ho:s.heap.get? I = some o) (hc:o.cls = .type n) (hn:ownTups.contains n = false):QuietIt w s (.ref I) v:=by
 intro A Q E target hQ
 have go:wpAny (model pw w) A (do
  let (.ref r,.ref a):=((Value.ref I,v):Value × Value) | return
  let o ← load r
  match o.cls,o.data with
  | .type n,.fields vs =>
   if ["enumerate","zip","dict_itemiterator","dict_reverseitemiterator","odict_iterator","itertools.zip_longest","itertools.pairwise"].contains n && vs[0]? == some (rawInt a) then
    rule "for.unpacks-the-owned-tuple"
    updateField r 0 .none
  | _,_ => pure ()) Q E s:=by
  cases v with
  | ref a =>
   refine wpAny_bind (wpAny_load ho ?_)
   rw [hc]
   cases o.data with
   | fields vs =>
    show wpAny _ A (if (ownTups.contains n && vs[0]? == some (rawInt a)) = true then _ else _) Q E s
    rw [hn,Bool.false_and,if_neg Bool.false_ne_true]
    exact wpAny_pure hQ
   | _ => exact wpAny_pure hQ
  | _ => exact wpAny_pure hQ
 have z:wpAny (model pw w) A (pure ()) Q E s:=wpAny_pure hQ
 cases target <;> first | exact z | exact go
noncomputable def KW (X₀:Addr → Prop) (s₀:Shared) (W:Addr → Prop) (b:Addr):Prop:=W b ∨ b < 188 ∨ (¬ X₀ b ∧ ∃ o,s₀.heap.get? b = some o)
noncomputable def Pulls (w:World) (A:Around) (it:Value) (Gw:Nat → Prop) (X₀:Addr → Prop) (s₀:Shared):List PV → (Addr → Prop) → Shared → Prop
 | [],W,s => ∀ (s₁:Shared) (Q:Option Value → Shared → Prop) (E:Value → Shared → Prop),Later (KW X₀ s₀ W) s s₁ → (∀ s',Chg W Gw s₁ s' → Q none s') → wpAny (model pw w) A (pyNext it) Q E s₁
 | p :: ps,W,s => ∀ (s₁:Shared) (Q:Option Value → Shared → Prop) (E:Value → Shared → Prop),Later (KW X₀ s₀ W) s s₁ →
   (∀ v s' (W':Addr → Prop),Chg W Gw s₁ s' → (∀ b,W b → W' b) → (∀ b,W' b → W b ∨ s₁.heap.get? b = none) → (∀ b,W' b → W b ∨ b < s'.heap.objs.size) →
    (∀ Y:Addr → Prop,(∀ b,Y b → X₀ b ∨ s₀.heap.get? b = none) → (∀ b,Y b → b < s₁.heap.objs.size ∨ W' b) → Rep w s'.heap Y s'.toks v p) →
    (∀ l,p = .tup l → QuietIt w s' it v) → Pulls w A it Gw X₀ s₀ ps W' s' → Q (some v) s') → wpAny (model pw w) A (pyNext it) Q E s₁
theorem Pulls.later {w:World} {A:Around} {it:Value} {Gw:Nat → Prop} {X₀:Addr → Prop} {s₀:Shared} {ps:List PV} {W:Addr → Prop} {s s₁:Shared} (P:Pulls w A it Gw X₀ s₀ ps W s) (l:Later (KW X₀ s₀ W) s s₁):Pulls w A it Gw X₀ s₀ ps W s₁:=by
 cases ps with
 | nil => exact fun s₂ Q E l₂ hQ => P s₂ Q E (l.trans l₂) hQ
 | cons p ps => exact fun s₂ Q E l₂ hQ => P s₂ Q E (l.trans l₂) hQ
section
variable {w:World} {A:Around}
theorem Walks.pulls {I:Addr} {fp wr:List Addr} {n:Nat} {P:Nat → Value → Prop} {St:Nat → Heap → Prop} (Wk:Walks pw w A I fp wr n P St) {its:List PV} (hn:its.length = n)
  {W:Addr → Prop} {Gw:Nat → Prop} {X₀:Addr → Prop} {s₀:Shared} (hfp:∀ b ∈ fp,KW X₀ s₀ W b) (hwr:∀ b ∈ wr,W b ∧ s₀.heap.get? b = none)
  (hP:∀ j v p,P j v → its[j]? = some p → ∀ (s':Shared) (Y:Addr → Prop),(∀ b o,¬ X₀ b → s₀.heap.get? b = some o → s'.heap.get? b = some o) → s₀.toks ≤ s'.toks → (∀ b,Y b → X₀ b ∨ s₀.heap.get? b = none) → Rep w s'.heap Y s'.toks v p)
  (hq:∀ j (s:Shared) v l,St (j + 1) s.heap → its[j]? = some (.tup l) → QuietIt w s (.ref I) v) :
  ∀ (m i:Nat) (s:Shared),n - i = m → i ≤ n → St i s.heap → (∀ b o,¬ X₀ b → s₀.heap.get? b = some o → s.heap.get? b = some o) → s₀.toks ≤ s.toks → Pulls w A (.ref I) Gw X₀ s₀ (its.drop i) W s:=by
 have chg:∀ (s₁:Shared) (h':Heap) (tk:Tok),(∀ b o,b ∉ wr → s₁.heap.get? b = some o → h'.get? b = some o) → s₁.toks ≤ tk → Chg W Gw s₁ { s₁ with heap:=h',toks:=tk }:=fun s₁ h' tk hk ht =>
  ⟨fun b o hb e => hk b o (fun q => hb (hwr b q).1) e,fun _ _ _ e => e,fun _ _ e => .inl e,rfl,ht⟩
 intro m
 induction m with
 | zero =>
  intro i s hm hi st kept htk
  have:i = n:=by lia
  subst this
  rw [← hn,List.drop_length]
  intro s₁ Q E l hQ
  have st₁:=Wk.frame i _ _ st fun b hb o e => l.heap b o (hfp b hb) e
  exact wpAny_with_toks (Nat.le_refl _) (Wk.done s₁ _ _ st₁ fun h' tk hk ht => hQ _ (chg s₁ h' tk hk ht))
 | succ m ih =>
  intro i s hm hi st kept htk
  have hlt:i < its.length:=by lia
  rw [List.drop_eq_getElem_cons hlt]
  intro s₁ Q E l hQ
  have st₁:=Wk.frame i _ _ st fun b hb o e => l.heap b o (hfp b hb) e
  refine wpAny_with_toks (Nat.le_refl _) (Wk.item i s₁ _ _ (by lia) st₁ fun v h' tk hv hst hk ht => ?_)
  have hp:its[i]? = some its[i]:=List.getElem?_eq_getElem hlt
  have kept':∀ b o,¬ X₀ b → s₀.heap.get? b = some o → h'.get? b = some o:=fun b o hx e =>
   hk b o (fun q => by have:=(hwr b q).2;rw [e] at this;cases this) (l.heap b o (.inr (.inr ⟨hx,o,e⟩)) (kept b o hx e))
  refine hQ v _ W (chg s₁ h' tk hk ht) (fun _ h => h) (fun _ h => .inl h) (fun _ h => .inl h) (fun Y hy _ => hP i v _ hv hp _ Y kept' (Nat.le_trans htk (Nat.le_trans l.tk ht)) hy) (fun l hl => hq i _ v l hst (hl ▸ hp)) ?_
  exact ih (i + 1) _ (by lia) (by lia) hst kept' (Nat.le_trans htk (Nat.le_trans l.tk ht))
end
end
section
noncomputable def Iters (w:World) (A:Around) (X:Addr → Prop) (s₀:Shared) (its:List PV) (it:Value) (s₂:Shared):Prop :=
 ∃ (W:Addr → Prop) (Gw:Nat → Prop),Chg noA noG s₀ s₂ ∧ (∀ b,W b → s₀.heap.get? b = none ∧ b < s₂.heap.objs.size) ∧ (∀ i,Gw i → s₀.gens[i]? = none) ∧
  Pulls w A it Gw X s₀ its W s₂ ∧
  ∀ (s₁:Shared) (Q:Value → Shared → Prop) (E:Value → Shared → Prop),Later (KW X s₀ W) s₂ s₁ → Q it s₁ → wpAny (model pw w) A (pyIter it) Q E s₁
section
variable {w:World} {A:Around} {E:Value → Shared → Prop} {X:Addr → Prop} {s:Shared}
theorem fresh_push {h:Heap} {a:Addr} {o:Obj} (e:h.get? a = some o):a ≠ h.objs.size:=Nat.ne_of_lt (Heap.lt_size e)
theorem iters_walk {o:Obj} {I:Addr} {fp:List Addr} {n:Nat} {P:Nat → Value → Prop} {St:Nat → Heap → Prop} (hI:I = s.heap.objs.size) (hof:o.isFreed = false) (Wk:Walks pw w A I fp [I] n P St) {its:List PV} (hn:its.length = n)
  (hfp:∀ b ∈ fp,b = I ∨ (¬ X b ∧ ∃ o,s.heap.get? b = some o)) (hst:St 0 (s.heap.push o))
  (hP:∀ j v p,P j v → its[j]? = some p → ∀ (s':Shared) (Y:Addr → Prop),(∀ b o,¬ X b → s.heap.get? b = some o → s'.heap.get? b = some o) → s.toks ≤ s'.toks → (∀ b,Y b → X b ∨ s.heap.get? b = none) → Rep w s'.heap Y s'.toks v p)
  (hq:∀ j (s:Shared) v l,St (j + 1) s.heap → its[j]? = some (.tup l) → QuietIt w s (.ref I) v):Iters w A X s its (.ref I) { s with heap:=s.heap.push o }:=by
 subst hI
 refine ⟨(· = s.heap.objs.size),noG,Chg.push s o,fun b hb => ?_,fun _ h => h.elim,?_⟩
 ·subst hb;exact ⟨fresh_none _,by show _ < (s.heap.push o).objs.size;rw [Heap.size_push];exact Nat.lt_succ_self _⟩
 ·have:=Walks.pulls (W:=(· = s.heap.objs.size)) (Gw:=noG) (X₀:=X) (s₀:=s) Wk hn (fun b hb => (hfp b hb).imp id .inr) (fun b hb => by
   rw [List.mem_singleton] at hb;subst hb;exact ⟨rfl,fresh_none _⟩) hP hq (n - 0) 0 { s with heap:=s.heap.push o } rfl (Nat.zero_le _) hst (fun b o' _ e => Heap.get?_push_of_some _ e) (Nat.le_refl _)
  rw [List.drop_zero] at this
  refine ⟨this,fun s₁ Q E l q => Wk.self 0 s₁ Q E (Wk.frame 0 _ _ hst fun b hb o e => l.heap b o ?_ e) q⟩
  exact (hfp b hb).imp id .inr
theorem reps_item {vs:List Value} {l:List PV} (hr:Reps w s.heap X s.toks vs l) {j:Nat} {v:Value} {p:PV} (hv:vs.toArray[j]? = some v) (hp:l[j]? = some p) (s':Shared) (Y:Addr → Prop)
  (hk:∀ b o,¬ X b → s.heap.get? b = some o → s'.heap.get? b = some o) (ht:s.toks ≤ s'.toks) (hy:∀ b,Y b → X b ∨ s.heap.get? b = none):Rep w s'.heap Y s'.toks v p:=by
 obtain ⟨u,hu,r⟩:=hr.get j hp
 rw [List.getElem?_toArray,hu] at hv
 cases hv
 exact r.mono hk hy ht
theorem iter_val (hA:A.handled = none) {v:Value} {p:PV} {its:List PV} (r:Rep w s.heap X s.toks v p) (h:itsOf p = some its) {Q:Value → Shared → Prop}
  (hQ:∀ it s₂,Iters w A X s its it s₂ → Q it s₂):wpAny (model pw w) A (pyIter v) Q E s:=by
 cases r with
 | list ha hx hr =>
  rename_i a vs l
  cases h
  obtain ⟨ol,el,_⟩:=id ha
  refine wpAny_pyIter_list ha (hQ _ _ (iters_walk rfl rfl (Walks.list hA _ a (fresh_push el) vs.toArray) (by simp [hr.length]) (fun b hb => ?_) ⟨⟨_,Heap.get?_push_size _ rfl,rfl,rfl⟩,ha.push _⟩ (fun j v p hv hp => reps_item hr hv hp) fun j s v l st _ => ?_))
  ·rcases List.mem_cons.mp hb with rfl | hb
   ·exact .inl rfl
   ·rw [List.mem_singleton] at hb;subst hb;exact .inr ⟨hx,ol,el⟩
  ·obtain ⟨⟨o,e,c,_⟩,_⟩:=st
   exact quiet_of e c (by decide)
 | tup ha hx hr =>
  rename_i a vs l
  cases h
  obtain ⟨ol,el,_⟩:=id ha
  refine wpAny_pyIter_tuple ha (hQ _ _ (iters_walk rfl rfl (Walks.tuple hA _ a (fresh_push el) vs.toArray) (by simp [hr.length]) (fun b hb => ?_) ⟨⟨_,Heap.get?_push_size _ rfl,rfl,rfl⟩,ha.push _⟩ (fun j v p hv hp => reps_item hr hv hp) fun j s v l st _ => ?_))
  ·rcases List.mem_cons.mp hb with rfl | hb
   ·exact .inl rfl
   ·rw [List.mem_singleton] at hb;subst hb;exact .inr ⟨hx,ol,el⟩
  ·obtain ⟨⟨o,e,c,_⟩,_⟩:=st
   exact quiet_of e c (by decide)
 | str l t =>
  cases h
  have hp':∀ j v p,SignAt (k l) j v → (l.map fun c => PV.str [c])[j]? = some p → ∀ (s':Shared) (Y:Addr → Prop),(∀ b o,¬ X b → s.heap.get? b = some o → s'.heap.get? b = some o) → s.toks ≤ s'.toks → (∀ b,Y b → X b ∨ s.heap.get? b = none) → Rep w s'.heap Y s'.toks v p:=by
   intro j v p hv hp s' Y _ _ _
   obtain ⟨c,u,hc,rfl⟩:=hv
   rw [List.getElem?_map] at hp
   have:l[j]? = some c:=by simpa using hc
   rw [this] at hp
   cases hp
   exact .str [c] u
  have hq':∀ (j:Nat) (v:Value) (l':List PV) (I:Addr) (s:Shared),(l.map fun c => PV.str [c])[j]? = some (PV.tup l') → QuietIt w s (.ref I) v:=by
   intro j v l' I s hl
   rw [List.getElem?_map] at hl
   cases hh:l[j]? <;> rw [hh] at hl <;> cases hl
  cases ha:(k l).cps.all (· < 128)
  ·exact wpAny_pyIter_wide ha (hQ _ _ (iters_walk rfl rfl (Walks.strWide hA _ (k l) t) (by simp) (fun b hb => .inl (by simpa using hb)) ⟨_,Heap.get?_push_size _ rfl,rfl,rfl⟩ hp' fun j s v l' _ hl => hq' j v l' _ s hl))
  ·exact wpAny_pyIter_ascii ha (hQ _ _ (iters_walk rfl rfl (Walks.strAscii hA _ (k l) t) (by simp) (fun b hb => .inl (by simpa using hb)) ⟨_,Heap.get?_push_size _ rfl,rfl,rfl⟩ hp' fun j s v l' _ hl => hq' j v l' _ s hl))
 | dict ha hs hx hk hr =>
  rename_i a kvs l ep
  cases h
  obtain ⟨ol,es,el,_⟩:=id ha
  have hlen:kvs.length = l.length:=by have:=congrArg List.length hk;simpa using this
  refine wpAny_pyIter_dict hs ha (hQ _ _ (iters_walk rfl rfl (Walks.dictKeys hA _ a (fresh_push el) kvs ep) (by simp [hlen]) (fun b hb => ?_) ⟨⟨_,Heap.get?_push_size _ rfl,rfl,rfl⟩,ha.at' fun o e => Heap.get?_push_of_some _ e⟩
   (fun j v p hv hp s' Y _ _ _ => ?_) fun j s v l' st hl => ?_))
  ·rcases List.mem_cons.mp hb with rfl | hb
   ·exact .inl rfl
   ·rw [List.mem_singleton] at hb;subst hb;exact .inr ⟨hx,ol,el⟩
  ·obtain ⟨i,x,hi,hv⟩:=hv
   rw [List.getElem?_map] at hp
   have h1:(l.map (·.1))[j]? = some i:=by rw [← hk,List.getElem?_map,hi];rfl
   rw [List.getElem?_map] at h1
   cases hh:l[j]? with
   | none => rw [hh] at hp;exact (nS hp).elim
   | some q =>
    rw [hh] at hp h1
    cases hp;cases h1
    obtain ⟨t,rfl⟩:=Value.isInt_shape hv
    exact .int _ _
  ·rw [List.getElem?_map] at hl
   cases hh:l[j]? <;> rw [hh] at hl <;> cases hl
 | _ => exact (nS h).elim
theorem iter_range (hA:A.handled = none) {i j:Int} {r:Addr} {t u c:Tok} (hi:small i = true) (hj:small j = true) (hr:IsRange s.heap r i j 1 t u c) {Q:Value → Shared → Prop}
  (hQ:∀ it s₂,Iters w A X s (rangeI i (j - i).toNat) it s₂ → Q it s₂):wpAny (model pw w) A (pyIter (.ref r)) Q E s:=by
 obtain ⟨a1,a2⟩:=small_iff.mp hi
 obtain ⟨b1,b2⟩:=small_iff.mp hj
 have hsz:Builtin.Range.rangeSize i j 1 = ((j - i).toNat:Int):=by rw [rangeSize_one];split <;> lia
 have hlen:∀ (n:Nat) (a:Int),(rangeI a n).length = n:=by
  intro n;induction n with
  | zero => intro a;rfl
  | succ n ih => intro a;exact congrArg (· + 1) (ih (a + 1))
 have hget:∀ (n:Nat) (a:Int) (m:Nat) p,(rangeI a n)[m]? = some p → p = .int (a + m):=by
  intro n;induction n with
  | zero => exact fun a m p h => (nS h).elim
  | succ n ih =>
   intro a m p h
   cases m with
   | zero => obtain rfl:=Option.some.inj h;show _ = PV.int (a + 0);rw [Int.add_zero]
   | succ m =>
    rw [ih (a + 1) m p h]
    congr 1;lia
 refine wpAny_pyIter_range hr (small_one (by lia) (by lia) (by lia) (by lia)) (hQ _ _ (iters_walk rfl rfl (Walks.range hA _ i 1 (j - i).toNat) (hlen _ _) (fun b hb => .inl (by simpa using hb)) ?_ (fun m v p hv hp s' Y _ _ _ => ?_) fun m s v l st hl => ?_))
 ·have e1:(i + ((0:Nat):Int) * 1) = i:=by simp
  have e2:(((j - i).toNat:Int) - ((0:Nat):Int)) = Builtin.Range.rangeSize i j 1:=by rw [hsz];simp
  show IsRangeIter _ _ (i + ((0:Nat):Int) * 1) (((j - i).toNat:Int) - ((0:Nat):Int)) 1
  rw [e1,e2]
  exact Heap.get?_push_size _ rfl
 ·obtain ⟨t,rfl⟩:=hv
  rw [hget _ _ _ _ hp]
  simp only [Int.mul_one]
  exact .int _ _
 ·have:=hget _ _ _ _ hl
  cases this
end
end
section
section
variable {M:Model} {A:Around} {R:GenEnd} {Y:Protocol} {n:Nat} {s₀:Shared} {c:Code} {fs:List Frame} {s:Shared} {env:Env}
 {K:Flow → Sem Fin} {H:Value → Sem Fin} {gd:Bool → Bool} {lv:List Value → List Value}
theorem seg_exec {st:Stmt} (h:wpAny M (A.over c fs) (exec st env) (fun a s' => Seg M A R Y n s₀ c (K a) fs s') (fun x s' => Seg M A R Y n s₀ c (H x) fs s') s):Seg M A R Y n s₀ c ((exec st env).wrap K H gd lv) fs s:=seg_wrap h
noncomputable def forK (K:Flow → Sem Fin) (H:Value → Sem Fin) (gd:Bool → Bool) (lv:List Value → List Value) (env:Env):Result → Sem Fin:=fun r => ((match r with | .ok f => (.pure f:Sem Flow) | .error e => .raise e).onRaise fun (x:Value) => do
    if (← field x 1) == Value.none then unsupported "frame.own-activation:exception-without-traceback"
    setFlight x env.frame).wrap K H gd lv
theorem seg_For {target iter:Expr} {body orelse:List Stmt} {pos:Pos}
  (h:wpAny M (A.over c fs) (eval iter env) (fun x s₁ => wpAny M (A.over c fs) (pyIter x) (fun it s₂ => ∀ p,Seg M A R Y n s₀ (.forLoop target it body orelse env) (M.den (.forLoop target it body orelse env))
   (.ret (forK K H gd lv env) none (gd false) (lv []) c p [] :: fs) s₂) (fun x s' => Seg M A R Y n s₀ c (H x) fs s') s₁) (fun x s' => Seg M A R Y n s₀ c (H x) fs s') s)
  (hs:∀ x,foldedSetIterable iter env x = pure x) :
  Seg M A R Y n s₀ c ((exec (.For target iter body orelse pos) env).wrap K H gd lv) fs s:=by
 rw [exec_For]
 refine seg_bind_wrap (wpAny_standAt ?_)
 refine seg_bind_wrap (wpAny_mono h (fun x s₁ h₁ => ?_) fun _ _ e => e)
 refine seg_bind_wrap (wpAny_of_eq (hs x) ?_)
 refine seg_bind_wrap (wpAny_standAt ?_)
 refine seg_bind_wrap (wpAny_holding (wpAny_mono h₁ (fun it s₂ h₂ => ?_) fun _ _ e => e))
 exact seg_call h₂
theorem seg_If {test:Expr} {a b:List Stmt} {pos:Pos}
  (h:wpAny M (A.over c fs) (isTrue test env (eval test env)) (fun t s' => Seg M A R Y n s₀ c ((execs (if t then a else b) env).wrap K H gd lv) fs s') (fun x s' => Seg M A R Y n s₀ c (H x) fs s') s) :
  Seg M A R Y n s₀ c ((exec (.If test a b pos) env).wrap K H gd lv) fs s:=by
 rw [show exec (.If test a b pos) env = (do standAt pos;if ← isTrue test env (eval test env) then execs a env else execs b env) from rfl]
 refine seg_bind_wrap (wpAny_standAt ?_)
 refine seg_bind_wrap (wpAny_mono h (fun t s' h' => ?_) fun _ _ e => e)
 cases t with
 | true => simpa using h'
 | false => simpa using h'
end
section
variable {prog:Program} {w:World} {A:Around} {R:GenEnd} {Y:Protocol} {n:Nat} {s₀:Shared} {fs:List Frame} {s:Shared} {env:Env}
noncomputable def noteH (env:Env) (e:Value):Sem Fin:=(do noteFrame e env;theTreesLotGoes e:Sem Unit).wrap (fun _ => .raise e) .raise id id
theorem seg_block_nil (h:Seg (model prog w) A R Y n s₀ (.block [] env) (.pure (.done .next)) fs s):Seg (model prog w) A R Y n s₀ (.block [] env) ((model prog w).den (.block [] env)) fs s:=by
 show Seg _ A R Y n s₀ _ ((execs [] env).onRaise _ >>= _) fs s
 exact h
theorem seg_forLoop {target:Expr} {it:Value} {body:List Stmt}
  (h:wpAny (model prog w) (A.over (.forLoop target it body [] env) fs) (pyNext it) (fun r s₁ => match r with
   | none => Seg (model prog w) A R Y n s₀ (.block [] env) (.pure (.done .next)) fs s₁
   | some v => wpAny (model prog w) (A.over (.forLoop target it body [] env) fs) (letOwnedTupleGo target it v) (fun _ s₂ =>
     wpAny (model prog w) (A.over (.forLoop target it body [] env) fs) (assign target env v) (fun _ s₃ =>
      Seg (model prog w) A R Y n s₀ (.forLoop target it body [] env) ((execs body env).wrap (fun f => match f with
       | .next | .cont => .pure (.again (.forLoop target it body [] env))
       | .brk => .pure (.done .next)
       | .ret v => .pure (.done (.ret v))) (noteH env) id id) fs s₃) (fun _ _ => False) s₂) (fun _ _ => False) s₁) (fun _ _ => False) s) :
  Seg (model prog w) A R Y n s₀ (.forLoop target it body [] env) ((model prog w).den (.forLoop target it body [] env)) fs s:=by
 show Seg _ A R Y n s₀ _ ((forTurn target it body [] env).onRaise (fun x => do noteFrame x env;theTreesLotGoes x)) fs s
 rw [Sem.onRaise_eq_wrap]
 unfold forTurn
 refine seg_bind_wrap (wpAny_standAt ?_)
 refine seg_bind_wrap (wpAny_onRaise (wpAny_mono h (fun r s₁ h₁ => ?_) fun _ _ e => e.elim))
 cases r with
 | none => exact seg_again rfl (seg_block_nil h₁)
 | some v =>
  refine seg_bind_wrap (wpAny_mono h₁ (fun _ s₂ h₂ => ?_) fun _ _ e => e.elim)
  refine seg_bind_wrap (wpAny_mono h₂ (fun _ s₃ h₃ => ?_) fun _ _ e => e.elim)
  rw [Sem.bind_eq_wrap',Sem.wrap_wrap]
  rw [Sem.wrap_congr (execs body env) _ _ (K':=fun f => match f with
       | .next | .cont => .pure (.again (.forLoop target it body [] env))
       | .brk => .pure (.done .next)
       | .ret v => .pure (.done (.ret v))) (H':=noteH env)
    (fun f => by cases f <;> rfl)
    (fun e => by first | exact Sem.bind_eq_wrap _ _ | (show (do noteFrame e env;theTreesLotGoes e:Sem Unit).bind (fun _ => .raise e) = _;rw [Sem.bind_eq_wrap];rfl))]
  exact h₃
end
end
section
noncomputable def nAddr:PySem.Str:=k [97,100,100,114]
noncomputable def nPos:PySem.Str:=k [112,111,115]
noncomputable def nEsc:PySem.Str:=k [101,115,99,97,112,101]
noncomputable def nCh:PySem.Str:=k [99,104]
noncomputable def gLoop (P:Nat → Pos):List Stmt:=[.If (.Name nEsc (P 0))
  [.Expr (.Yield (some (.Tuple [.Name nPos (P 1),.BinOp (.Constant (.str (k [92])) 0 (P 2)) .Add (.Name nCh (P 3)) (P 4)] 0 (P 5))) (P 6)) (P 7),.Assign [.Name nEsc (P 8)] (.Constant (.bool false) 0 (P 9)) (P 10)]
  [.If (.Compare (.Name nCh (P 11)) [.Eq] [.Constant (.str (k [92])) 0 (P 12)] (P 13)) [.Assign [.Name nEsc (P 14)] (.Constant (.bool true) 0 (P 15)) (P 16)]
   [.Expr (.Yield (some (.Tuple [.Name nPos (P 17),.Name nCh (P 18)] 0 (P 19))) (P 20)) (P 21)] (P 22)] (P 23)]
noncomputable def gTgt (P:Nat → Pos):Expr:=.Tuple [.Name nPos (P 24),.Name nCh (P 25)] 0 (P 26)
noncomputable def gEnd (P:Nat → Pos):List Stmt:=[.If (.Name nEsc (P 27)) [.Expr (.Yield (some (.Tuple [.Name nPos (P 28),.Constant (.str (k [92])) 0 (P 29)] 0 (P 30))) (P 31)) (P 32)] [] (P 33)]
noncomputable def gBody (P:Nat → Pos):List Stmt:=.Assign [.Name nPos (P 34)] (.Constant (.int 0) 0 (P 35)) (P 36) :: .Assign [.Name nEsc (P 37)] (.Constant (.bool false) 0 (P 38)) (P 39) ::
 .For (gTgt P) (.Call (.Name enumN (P 40)) [.Name nAddr (P 41)] [] (P 42)) (gLoop P) [] (P 43) :: gEnd P
structure GE (env:Env) (L:Addr):Prop where
 fn:env.scope.kind = .function
 co:env.scope.isCoroutine = false
 loc:env.locals = L
 glob:env.globals = mainGlobals
 bi:env.builtins = builtinsNs
 k0:env.kindOf nAddr = some .local
 k1:env.kindOf nPos = some .local
 k2:env.kindOf nEsc = some .local
 k3:env.kindOf nCh = some .local
 ke:env.kindOf enumN = some .globalImplicit
noncomputable def GSince (L e it:Addr) (s₀ s:Shared):Prop:=∃ h' tk,s = { s₀ with heap:=h',toks:=tk } ∧ s₀.heap.objs.size ≤ h'.objs.size ∧ ∀ b o,b ≠ L → b ≠ e → b ≠ it → s₀.heap.get? b = some o → h'.get? b = some o
theorem GSince.refl (L e it:Addr) (s:Shared):GSince L e it s s:=⟨s.heap,s.toks,rfl,Nat.le_refl _,fun _ _ _ _ _ e => e⟩
theorem GSince.size {L e it:Addr} {s₀ s:Shared} (x:GSince L e it s₀ s):s₀.heap.objs.size ≤ s.heap.objs.size:=by obtain ⟨h',tk,rfl,h,_⟩:=x;exact h
theorem GSince.step {L e it:Addr} {s₀ s:Shared} (x:GSince L e it s₀ s) {h':Heap} {tk:Tok} (hz:s.heap.objs.size ≤ h'.objs.size) (hk:∀ b o,b ≠ L → b ≠ e → b ≠ it → s.heap.get? b = some o → h'.get? b = some o):GSince L e it s₀ { s with heap:=h',toks:=tk }:=by
 obtain ⟨h₁,tk₁,rfl,hz₁,hk₁⟩:=x
 exact ⟨h',tk,rfl,Nat.le_trans hz₁ hz,fun b o a c d q => hk b o a c d (hk₁ b o a c d q)⟩
noncomputable def gYield (L e it:Addr) (p:PV) (v:Value) (s₀ s:Shared):Prop :=
 ∃ T i t c u,p = .tup [.int i,.str c] ∧ v = .ref T ∧ (s₀.heap.objs.size ≤ T ∧ L < T ∧ e < T ∧ it < T) ∧ s.heap.get? T = some { cls:=.type "tuple",data:=.seq #[.int i t,.str (k c) u] }
noncomputable def gY (L e it:Addr) (its:List PV):Protocol:=fun m s₀ v s kap =>
 (∃ p,its.drop (its.length - (m + 1)) = p :: its.drop (its.length - m) ∧ gYield L e it p v s₀ s) ∧ GSince L e it s₀ s ∧ (e < s.heap.objs.size ∧ it < s.heap.objs.size) ∧
  ∀ s'':Shared,(∀ b o,(b = L ∨ b = e ∨ b = it) → s.heap.get? b = some o → s''.heap.get? b = some o) → kap (.send .none) s''
noncomputable def gR (L e it:Addr):GenEnd:=fun n s₀ r s₁ => r = .ok (.ret .none) ∧ (n = 0 ∧ GSince L e it s₀ s₁)
theorem suffix_step {its:List PV} {p:PV} {r:List PV} (h:its.drop (its.length - (p :: r).length) = p :: r):its.drop (its.length - r.length) = r ∧ its.drop (its.length - (r.length + 1)) = p :: its.drop (its.length - r.length):=by
 have hlen:(p :: r).length ≤ its.length:=by
  have:=congrArg List.length h
  rw [List.length_drop] at this
  have h2:(p :: r).length = r.length + 1:=rfl
  lia
 have h1:its.drop (its.length - r.length) = r:=by
  have:its.length - r.length = (its.length - (p :: r).length) + 1:=by simp at hlen ⊢;lia
  rw [this,← List.drop_drop,h];rfl
 exact ⟨h1,by rw [h1];exact h⟩
theorem strIt_at {h h':Heap} {a:Addr} {ty:String} {x:PySem.Str} {t:Tok} {i:Nat} (y:h.IsStrIter a ty x t i) (e:∀ o,h.get? a = some o → h'.get? a = some o):h'.IsStrIter a ty x t i:=let ⟨o,ho,r⟩:=y;⟨o,e o ho,r⟩
theorem drawsStr {prog:Program} {w:World} {A:Around} (hh:A.handled = none) (it:Addr) (x:PySem.Str) (t:Tok) :
  Draws prog w A it [it] x.cps.size (fun i v => ∃ c u,x.cps[i]? = some c ∧ v = .str ⟨#[c]⟩ u) (fun i h => h.IsStrIter it (strIterType x) x t i):=by
 unfold strIterType
 split
 ·exact Draws.strAscii hh it x t
 ·exact Draws.strWide hh it x t
theorem starEach_cons {a:Expr} {r:List Expr} {env:Env} (ha:notStar a = true):starEach (a :: r) env = (false,eval a env) :: starEach r env:=by
 cases a <;> first | rfl | (cases ha;done)
theorem lt_push {h:Heap} {o:Obj} {b:Addr} (q:b < h.objs.size):b < (h.push o).objs.size:=by rw [Heap.size_push];exact Nat.lt_succ_of_lt q
theorem push_le {h:Heap} {o:Obj}:h.objs.size ≤ (h.push o).objs.size:=by rw [Heap.size_push];exact Nat.le_succ _
section
variable {w:World} {A:Around} {env:Env} {L e it:Addr} {P:Nat → Pos} {its:List PV} {x:List Nat} {t:Tok}
set_option backward.match.sparseCases true in
noncomputable def gK (P:Nat → Pos) (env:Env):Flow → Sem Fin:=fun f => match f with
 | .next => (execs (gEnd P) env).wrap (fun f => .pure (.done (.ret (match f with | .ret v => v | _ => .none)))) (fun e => (leaving env e).wrap (fun _ => .raise e) .raise id id) id id
 | f => (.pure (.done (.ret (match f with | .ret v => v | _ => .none))))
noncomputable def gH (env:Env):Value → Sem Fin:=fun e => (leaving env e).wrap (fun _ => .raise e) .raise id id
noncomputable def gF (P:Nat → Pos) (env:Env) (p:Pos):Frame:=.ret (forK (gK P env) (gH env) id id env) none false [] (.func (gBody P) env) p []
theorem gLoad {A:Around} {m:PySem.Str → Option Value} {s:Shared} {y:PySem.Str} {v:Value} {pos:Pos} {Q:Value → Shared → Prop} {E:Value → Shared → Prop} (G:GE env L) (hn:s.heap.Ns L m) (hk:env.kindOf y = some .local) (hv:m y = some v) (hq:Q v s)
  (hd:(y == ("__debug__" : PySem.Str)) = false):wpAny (model pw w) A (eval (.Name y pos) env) Q E s :=
 wpAny_Name (wpAny_loadName_local G.fn hk (G.loc ▸ hn) hv hq) hd
theorem gStore {A:Around} {m:PySem.Str → Option Value} {s:Shared} {y:PySem.Str} {v:Value} {Q:Unit → Shared → Prop} {E:Value → Shared → Prop} (G:GE env L) (hn:s.heap.Ns L m) (hk:env.kindOf y = some .local)
  (hq:∀ h',h'.Ns L (fun z => if z = y then some v else m z) → Heap.SameBut L s.heap h' → Q () { s with heap:=h',toks:=s.toks + 1 }):wpAny (model pw w) A (storeName env y v) Q E s:=by
 obtain ⟨fn,co,rfl,_⟩:=G
 exact wpAny_storeName_local hk hn hq (by rw [fn];rfl)
theorem gTupled {A:Around} {pos:Pos} {a b:Expr} {n:Nat} {s:Shared} {Q:Value → Shared → Prop} {E:Value → Shared → Prop} (ha:notStar a = true) (hb:notStar b = true)
  (h:wpAny (model pw w) A (eval a env) (fun v s₁ => wpAny (model pw w) A (eval b env) (fun u s₂ => Q (.ref s₂.heap.objs.size) { s₂ with heap:=s₂.heap.push { cls:=.type "tuple",data:=.seq #[v,u] } }) E s₁) E s) :
  wpAny (model pw w) A (eval (.Tuple [a,b] n pos) env) Q E s:=by
 refine wpAny_Tuple ?_
 rw [starEach_cons ha,starEach_cons hb]
 refine Calls.spliced_cons (wpAny_mono h (fun v s₁ h₁ => Calls.spliced_cons (wpAny_mono h₁ (fun u s₂ h₂ => Calls.spliced_nil ⟨?_,h₂⟩) fun _ _ e => e)) fun _ _ e => e)
 show 2 ≤ sizeLine
 decide
theorem gen_end (G:GE env L) {s₀ s:Shared} {m:PySem.Str → Option Value} {esca:Bool} {i:Int} {tk:Tok} (hn:s.heap.Ns L m) (he:m nEsc = some (.bool esca)) (hp:esca = true → m nPos = some (.int (i - 1) tk)) (hs:GSince L e it s₀ s) (hel:e < s.heap.objs.size) (hil:it < s.heap.objs.size)
  (hsuf:its.drop (its.length - (esc i esca []).length) = esc i esca []) :
  Seg (model pw w) A (gR L e it) (gY L e it its) (esc i esca []).length s₀ (.func (gBody P) env) (gK P env .next) [] s:=by
 show Seg _ _ _ _ _ _ _ ((execs (gEnd P) env).wrap _ _ _ _) _ _
 unfold gEnd
 refine seg_execs_cons (seg_If (wpAny_isTrue_value (gLoad G hn G.k2 he (wpAny_truthy_bool ?_) (by decide)) rfl))
 cases esca with
 | false => exact seg_end (.ok (.ret .none)) ⟨rfl,rfl,hs⟩
 | true =>
  have hl:(esc i true []).length = 0 + 1:=rfl
  rw [hl]
  refine seg_execs_cons (seg_Expr_Yield rfl rfl rfl ?_ G.co (by unfold interactive;rw [G.fn];rfl))
  refine gTupled rfl rfl (gLoad G hn G.k1 (hp rfl) (wpAny_Constant_str ?_) (by decide))
  intro kap hkap
  refine ⟨⟨_,(suffix_step (p:=.tup [.int (i - 1),.str [92]]) (r:=[]) hsuf).2,s.heap.objs.size,i - 1,tk,[92],s.toks,rfl,rfl,⟨hs.size,hn.lt,hel,hil⟩,Heap.get?_push_size _ rfl⟩,hs.step (h':=s.heap.push _) (tk:=s.toks + 1) push_le fun b o _ _ _ e => Heap.get?_push_of_some _ e,⟨lt_push hel,lt_push hil⟩,fun s'' hk => ?_⟩
  exact hkap .none s'' (seg_end (.ok (.ret .none)) ⟨rfl,rfl,GSince.refl _ _ _ _⟩)
theorem nPos_ne:nPos ≠ nCh ∧ nEsc ≠ nCh ∧ nEsc ≠ nPos ∧ nPos ≠ nEsc ∧ nCh ≠ nEsc ∧ nAddr ≠ nPos ∧ nAddr ≠ nEsc:=by decide
theorem gen_loop (hh:A.handled = none) (G:GE env L) (hLe:e ≠ L) (hLi:it ≠ L) (hie:it < e) (hx:x.length ≤ 100000) :
  ∀ (l:List Nat) (i:Nat) (esca:Bool) (s₀ s:Shared) (m:PySem.Str → Option Value) (old:Value),x.drop i = l → i ≤ x.length → s.heap.Ns L m → m nEsc = some (.bool esca) → (esca = true → ∃ tk,m nPos = some (.int ((i:Int) - 1) tk)) →
   IsEnum s.heap e it (i:Int) old → s.heap.IsStrIter it (strIterType (k x)) (k x) t i → GSince L e it s₀ s → its.drop (its.length - (esc i esca l).length) = esc i esca l →
   ∀ p,Seg (model pw w) A (gR L e it) (gY L e it its) (esc i esca l).length s₀ (.forLoop (gTgt P) (.ref e) (gLoop P) [] env) ((model pw w).den (.forLoop (gTgt P) (.ref e) (gLoop P) [] env)) [gF P env p] s:=by
 intro l
 have hei:e ≠ it:=Nat.ne_of_gt hie
 have hA':∀ p,(A.over (.forLoop (gTgt P) (.ref e) (gLoop P) [] env) [gF P env p]).handled = none:=fun p => hh
 have D:=fun p => drawsStr (prog:=pw) (w:=w) (A:=(A.over (.forLoop (gTgt P) (.ref e) (gLoop P) [] env) [gF P env p]).in1) (hA' p) it (k x) t
 have hsz:(k x).cps.size = x.length:=by simp
 rw [hsz] at D
 induction l with
 | nil =>
  intro i esca s₀ s m old hl hi hn hm hp he hst hs hsuf p
  have hi':i = x.length:=Nat.le_antisymm hi (List.drop_eq_nil_iff.mp hl)
  refine seg_forLoop (wpAny_mono (wpAny_grow (E:=fun _ _ => False) (wpAny_mono (wpAny_pyNext_enum_endD (Q:=fun r s' => r = none ∧ ∃ h',Heap.ExtBut it s.heap h' ∧ s' = { s with heap:=h' }) (E:=fun _ _ => False) (D p) he (hi' ▸ hst) fun h' hk => ⟨rfl,h',hk,rfl⟩) (fun r s' q hz _ => (⟨q,hz⟩:(r = none ∧ ∃ h',Heap.ExtBut it s.heap h' ∧ s' = { s with heap:=h' }) ∧ s.heap.objs.size ≤ s'.heap.objs.size)) fun _ _ q => q.elim)) (fun r s' q => ?_) fun _ _ q => q)
  obtain ⟨⟨rfl,h',hk,rfl⟩,hz⟩:=q
  refine seg_leaf (.ok .next) ?_
  show Seg _ _ _ _ _ _ _ (gK P env .next) _ _
  have hn':h'.Ns L m:=hn.at' fun o e => hk L o (Ne.symm hLi) e
  have hel:e < h'.objs.size:=Heap.lt_size (hk e _ hei he)
  have hsw:it < h'.objs.size:=Nat.lt_trans hie hel
  by_cases hc:esca = true
  ·obtain ⟨tk,hp⟩:=hp hc
   exact gen_end (tk:=tk) G hn' hm (fun _ => hp) (hs.step hz fun b o _ _ hb q => hk b o hb q) hel hsw hsuf
  ·exact gen_end (tk:=0) G hn' hm (fun q => absurd q hc) (hs.step hz fun b o _ _ hb q => hk b o hb q) hel hsw hsuf
 | cons c r ih =>
  intro i esca s₀ s m old hl hi hn hm hp he hst hs hsuf p
  have hlt:i < x.length:=by
   rcases Nat.lt_or_ge i x.length with q | q
   ·exact q
   ·rw [List.drop_of_length_le q] at hl;cases hl
  have hxi:x[i]? = some c:=by
   have:=congrArg List.head? hl
   rw [List.head?_drop] at this
   exact this
  have hr:x.drop (i + 1) = r:=by rw [← List.tail_drop,hl];rfl
  have hel:e < s.heap.objs.size:=Heap.lt_size he
  have hil:it < s.heap.objs.size:=by obtain ⟨_,q,_⟩:=hst;exact Heap.lt_size q
  have hLl:=hn.lt
  refine seg_forLoop (wpAny_pyNext_enum_itemD (D p) he hst hlt hei (by simpa using hei) fun v h1 tk hP ho hst1 hT hsz hk1 => ?_)
  obtain ⟨c',u,hc',rfl⟩:=hP
  have:c' = c:=by
   have h2:x[i]? = some c':=by simpa using hc'
   rw [hxi] at h2;exact (Option.some.inj h2).symm
  subst this
  refine wpAny_letOwnedTupleGo_enum ho fun h2 he2 hs2 => ?_
  have hT2:h2.IsTuple s.heap.objs.size #[.int i tk,.str ⟨#[c']⟩ u]:=⟨_,hs2.extBut _ _ (Nat.ne_of_gt hel) hT,rfl,_,rfl⟩
  have hst2:=hst1.extBut hs2.extBut (Ne.symm hei)
  have hsz2:h2.objs.size = s.heap.objs.size + 1:=by rw [hs2.1];exact hsz
  refine wpAny_assign_Tuple (hA' p) hT2 rfl rfl fun h3 hk3 => ?_
  have hn3:h3.Ns L m:=(hn.at' fun o q => hk3 L o (Nat.ne_of_lt (Nat.lt_of_lt_of_le hLl (by rw [hsz2];exact Nat.le_succ _))) (hs2.extBut L o (Ne.symm hLe) (hk1 L o (Ne.symm hLe) (Ne.symm hLi) q)))
  have ne3:∀ b,b < h2.objs.size → b ≠ h2.objs.size:=fun b => Nat.ne_of_lt
  refine wpAny_assignInOrder_more (wpAny_assign_Name (gStore G hn3 G.k1 fun h4 hn4 hs4 => ?_))
  refine wpAny_assignInOrder_more (wpAny_assign_Name (gStore G hn4 G.k3 fun h5 hn5 hs5 => ?_))
  refine wpAny_assignInOrder_none ?_
  have up:∀ b o,b ≠ L → b < h2.objs.size → h2.get? b = some o → h5.get? b = some o:=fun b o hb hlt q => hs5.extBut b o hb (hs4.extBut b o hb (hk3 b o (Nat.ne_of_lt hlt) q))
  have he5:IsEnum h5 e it ((i:Int) + 1) _:=up e _ hLe (Heap.lt_size he2) he2
  have hst5:h5.IsStrIter it (strIterType (k x)) (k x) t (i + 1):=by
   obtain ⟨o,q,q'⟩:=hst2
   exact ⟨o,up it o hLi (Heap.lt_size q) q,q'⟩
  have hk5:∀ b o,b ≠ L → b ≠ e → b ≠ it → s.heap.get? b = some o → h5.get? b = some o:=fun b o b1 b2 b3 q => by
   have q2:=hs2.extBut b o b2 (hk1 b o b2 b3 q)
   exact up b o b1 (Heap.lt_size q2) q2
  obtain ⟨d1,d2,d3,d4,d5,d6,d7⟩:=nPos_ne
  have m5c:∀ tk',(fun z => if z = nCh then some (Value.str ⟨#[c']⟩ u) else if z = nPos then some (Value.int i tk') else m z) nCh = some (.str ⟨#[c']⟩ u):=fun _ => by simp
  have m5p:∀ tk',(fun z => if z = nCh then some (Value.str ⟨#[c']⟩ u) else if z = nPos then some (Value.int i tk') else m z) nPos = some (.int i tk'):=fun _ => by simp [d1]
  have m5e:∀ tk',(fun z => if z = nCh then some (Value.str ⟨#[c']⟩ u) else if z = nPos then some (Value.int i tk') else m z) nEsc = some (.bool esca):=fun _ => by simp [d2,d3,hm]
  have hz5:s.heap.objs.size ≤ h5.objs.size:=Nat.le_of_lt (Heap.lt_size (up s.heap.objs.size _ (Nat.ne_of_gt hLl) (by rw [hsz2];exact Nat.lt_succ_self _) (hs2.extBut _ _ (Nat.ne_of_gt hel) hT)))
  have hs5':∀ tk,GSince L e it s₀ { s with heap:=h5,toks:=tk }:=fun tk => hs.step hz5 hk5
  have hcast:((i:Int) + 1) = ((i + 1:Nat):Int):=by push_cast;rfl
  have hel5:e < h5.objs.size:=Heap.lt_size he5
  have hil5:it < h5.objs.size:=by obtain ⟨_,q,_⟩:=hst5;exact Heap.lt_size q
  have hint:interactive env = false:=by unfold interactive;rw [G.fn];rfl
  have again:∀ (esca':Bool) (s₁ s₂:Shared) (m₂:PySem.Str → Option Value),s₂.heap.Ns L m₂ → m₂ nEsc = some (.bool esca') → (esca' = true → ∃ tk,m₂ nPos = some (.int (((i + 1:Nat):Int) - 1) tk)) →
    s₂.heap.get? e = h5.get? e → s₂.heap.get? it = h5.get? it → GSince L e it s₁ s₂ → its.drop (its.length - (esc ((i:Int) + 1) esca' r).length) = esc ((i:Int) + 1) esca' r →
    Seg (model pw w) A (gR L e it) (gY L e it its) (esc ((i:Int) + 1) esca' r).length s₁ (.forLoop (gTgt P) (.ref e) (gLoop P) [] env) (.pure (.again (.forLoop (gTgt P) (.ref e) (gLoop P) [] env))) [gF P env p] s₂:=by
   intro esca' s₁ s₂ m₂ a1 a2 a3 a4 a5 a6 a7
   refine seg_again rfl ?_
   rw [hcast] at a7 ⊢
   refine ih (i + 1) esca' s₁ s₂ m₂ _ hr hlt a1 a2 a3 (by rw [← hcast];exact a4.trans he5) ?_ a6 a7 p
   obtain ⟨o,q,q'⟩:=hst5
   exact ⟨o,a5.trans q,q'⟩
  have yielded:∀ (s₂:Shared) (v:Value) (T:Addr) (y:List Nat) (tv:Tok) (ti:Tok),s₂.heap.get? T = some { cls:=.type "tuple",data:=.seq #[.int i ti,.str (k y) tv] } → (s₀.heap.objs.size ≤ T ∧ L < T ∧ e < T ∧ it < T) → GSince L e it s₀ s₂ →
    (∀ b o,h5.get? b = some o → s₂.heap.get? b = some o) → v = .ref T → its.drop (its.length - (PV.tup [.int i,.str y] :: esc ((i:Int) + 1) false r).length) = PV.tup [.int i,.str y] :: esc ((i:Int) + 1) false r → ∀ kap:Resume → Shared → Prop,
    (∀ s'':Shared,(∃ m₂,s''.heap.Ns L m₂ ∧ (∀ z,z ≠ nCh → z ≠ nPos → m₂ z = m z)) → s''.heap.get? e = h5.get? e → s''.heap.get? it = h5.get? it → its.drop (its.length - (esc ((i:Int) + 1) false r).length) = esc ((i:Int) + 1) false r → kap (.send .none) s'') →
    gY L e it its (esc ((i:Int) + 1) false r).length s₀ v s₂ kap:=by
   intro s₂ v T y tv ti b1 b2 b3 b4 b5 b6 kap hkap
   refine ⟨⟨_,(suffix_step b6).2,T,i,ti,y,tv,rfl,b5,b2,b1⟩,b3,⟨Heap.lt_size (b4 e _ he5),(by obtain ⟨o,q,q'⟩:=hst5;exact Heap.lt_size (b4 it _ q))⟩,fun s'' hk => hkap s'' ?_ ?_ ?_ (suffix_step b6).1⟩
   ·refine ⟨_,hn5.at' fun o q => hk L o (.inl rfl) (b4 L o q),fun z z1 z2 => ?_⟩
    simp [z1,z2]
   ·rw [he5];exact hk e _ (.inr (.inl rfl)) (b4 e _ he5)
   ·obtain ⟨o,q,q'⟩:=hst5
    rw [q];exact hk it o (.inr (.inr rfl)) (b4 it o q)
  unfold gLoop
  refine seg_execs_cons (seg_If (wpAny_isTrue_value (gLoad G hn5 G.k2 (m5e _) (wpAny_truthy_bool ?_) (by decide)) rfl))
  cases esca with
  | true =>
   have hl2:esc (i:Int) true (c' :: r) = PV.tup [.int i,.str [92,c']] :: esc ((i:Int) + 1) false r:=rfl
   rw [hl2] at hsuf ⊢
   refine seg_execs_cons (seg_Expr_Yield rfl rfl rfl ?_ G.co hint)
   refine gTupled rfl rfl (gLoad G hn5 G.k1 (m5p _) (wpAny_BinOp (wpAny_Constant_str (gLoad G hn5 G.k3 (m5c _) (add_str (fun t' tk' => ?_) (by show 1 + 1 ≤ sizeLine;decide)) (by decide)))) (by decide))
   intro kap hkap
   refine yielded _ _ _ [92,c'] t' _ (Heap.get?_push_size _ rfl) ⟨(hs5' 0).size,hn5.lt,hel5,hil5⟩ ((hs5' 0).step (h':=h5.push _) push_le fun b o _ _ _ q => Heap.get?_push_of_some _ q) (fun b o q => Heap.get?_push_of_some _ q) rfl hsuf kap fun s'' ⟨m₂,hn2,_⟩ q1 q2 q3 => hkap .none s'' ?_
   refine seg_execs_cons (seg_exec (wpAny_Assign_Name (wpAny_Constant_bool (gStore G hn2 G.k2 fun h6 hn6 hs6 => ?_)) rfl))
   exact again false s'' _ _ hn6 (by simp) (by simp) ((hs6.2 e hLe).trans q1) ((hs6.2 it hLi).trans q2) ((GSince.refl _ _ _ _).step (Nat.le_of_eq hs6.1.symm) fun b o b1 _ _ q => hs6.extBut b o b1 q) q3
  | false =>
   refine seg_execs_cons (seg_If (wpAny_isTrue_Compare1 (gLoad G hn5 G.k3 (m5c _) (wpAny_Constant_str (eq_str (wpAny_truthy_bool ?_))) (by decide)) rfl))
   by_cases h92:c' = 92
   ·subst h92
    have hl2:esc (i:Int) false (92 :: r) = esc ((i:Int) + 1) true r:=rfl
    rw [hl2] at hsuf ⊢
    rw [show ((⟨#[92]⟩:PySem.Str) == k [92]) = true from rfl]
    refine seg_execs_cons (seg_exec (wpAny_Assign_Name (wpAny_Constant_bool (gStore G hn5 G.k2 fun h6 hn6 hs6 => ?_)) rfl))
    exact again true s₀ _ _ hn6 (by simp) (fun _ => ⟨tk,by simp [d4,d1]⟩) (hs6.2 e hLe) (hs6.2 it hLi) ((hs5' 0).step (Nat.le_of_eq hs6.1.symm) fun b o b1 _ _ q => hs6.extBut b o b1 q) hsuf
   ·have hl2:esc (i:Int) false (c' :: r) = PV.tup [.int i,.str [c']] :: esc ((i:Int) + 1) false r:=if_neg fun q => h92 (of_decide_eq_true q)
    rw [hl2] at hsuf ⊢
    rw [show ((⟨#[c']⟩:PySem.Str) == k [92]) = false from by rw [beq_eq_false_iff_ne];intro q;apply h92;simpa using congrArg (fun z:PySem.Str => z.cps.toList) q]
    refine seg_execs_cons (seg_Expr_Yield rfl rfl rfl ?_ G.co hint)
    refine gTupled rfl rfl (gLoad G hn5 G.k1 (m5p _) (gLoad G hn5 G.k3 (m5c _) ?_ (by decide)) (by decide))
    intro kap hkap
    refine yielded _ _ _ [c'] u _ (Heap.get?_push_size _ rfl) ⟨(hs5' 0).size,hn5.lt,hel5,hil5⟩ ((hs5' 0).step (h':=h5.push _) push_le fun b o _ _ _ q => Heap.get?_push_of_some _ q) (fun b o q => Heap.get?_push_of_some _ q) rfl hsuf kap fun s'' ⟨m₂,hn2,hm2⟩ q1 q2 q3 => hkap .none s'' ?_
    exact again false s'' _ _ hn2 ((hm2 nEsc d2 d3).trans hm) (by simp) q1 q2 (GSince.refl _ _ _ _) q3
end
end
section
section
variable {w:World} {A:Around} {E:Value → Shared → Prop} {s:Shared}
theorem stop_raised {α β:Type} {K:β → Sem α} {Q:α → Shared → Prop} (hh:A.handled = none) (over:∀ e h',(∃ o,h'.get? e = some o ∧ o.cls = .type "StopIteration") →
   (∀ b o,s.heap.get? b = some o → h'.get? b = some o) → E (.ref e) { s with heap:=h' }) :
  wpAny (model pw w) A (newExc (.type "StopIteration") [] >>= fun e => (raiseNew e:Sem β) >>= K) Q E s:=by
 unfold newExc newTuple raiseNew
 refine wpAny_bind (wpAny_bind (wpAny_newObj_type ?_ (by size_fits)))
 refine wpAny_bind (m:=firstArgMember _ _) (wpAny_of_eq (a:=Value.none) (by first | rfl | (simp only [firstArgMember];rfl)) ?_)
 refine wpAny_newObj_type ?_ (by size_fits)
 refine wpAny_bind (wpAny_bind (wpAny_handled ?_))
 rw [hh]
 exact wpAny_bind (wpAny_pure (wpAny_throw (over _ _ (⟨_,Heap.get?_push_size _ rfl,rfl⟩) fun b o q => Heap.get?_push_of_some _ (Heap.get?_push_of_some _ q))))
theorem next_def_gen {a:Addr} {g n:Nat} {gs:GenState} {P:Nat → Shared → Shared → Prop} {Y:Protocol} {Q:Option Value → Shared → Prop} (hh:A.handled = none) (hl:s.heap.NoLimit) (hroom:A.depth < recursionLimit)
  (hg:s.heap.IsGen a g) (hgs:s.gens[g]? = some gs) (hgo:gs.Goes (model pw w) A.in1 (fun n s₀ r s₁ => r = .ok (.ret .none) ∧ P n s₀ s₁) Y n (.send .none) (s.setGen g .running))
  (more:∀ v s₁ gs',gs'.bare = true → Y (n - 1) (s.setGen g .running) v s₁ (fun r' s'' => match n with
    | 0 => False
    | m + 1 => gs'.Goes (model pw w) A.in1 (fun n s₀ r s₁ => r = .ok (.ret .none) ∧ P n s₀ s₁) Y m r' s'') → Q (some v) (s₁.setGen g gs'))
  (over:∀ s₁,P n (s.setGen g .running) s₁ → ∀ h',(∀ b o,s₁.heap.get? b = some o → h'.get? b = some o) → Q none { s₁.setGen g .finished with heap:=h' }) :
  wpAny (model pw w) A (pyNext (.ref a)) Q E s:=by
 unfold pyNext
 refine wpAny_bind (wpAny_attempt (wpAny_mono (wpAny_callSpecial?_slot (name:=Str.ofString "__next__") (E:=fun e s' => ∃ x,e = .ref x ∧ (∃ o,s'.heap.get? x = some o ∧ o.cls = .type "StopIteration") ∧ Q none s')
  (Q:=fun v s' => ∃ u,v = some u ∧ Q (some u) s') hg.typeIs slot_gen_next
  (wpAny_call_entry slot_gen_next hg.typeIs entry_gen_next ?_ (args_gen_next _))) (fun v s' hv => ?_) fun e s' he => ?_))
 ·show wpAny _ A.in1 (Builtin.Generator.genWake (.ref a) (.send .none)) _ _ s
  unfold Builtin.Generator.genWake
  refine wpAny_bind (wpAny_holding (wpAny_genNumber hg (wpAny_bind (wpAny_genState hgs ?_))))
  cases gs with
  | running => exact hgo.elim
  | finished => exact hgo.elim
  | _ =>
   refine wpAny_bind (wpAny_roomToWake hl hroom ?_)
   refine wpAny_mono (wpAny_bind (wpAny_resumeQ hgs hgo (fun x s₁ hx => ?_) fun v s₁ gs' hb hv => ?_):wpAny _ A.in1 (resume g (.send .none) >>= _) (fun fin s' => ∃ v,fin = .done (.ret v) ∧ Q (some v) s') _ s) (fun fin s' ⟨v,e,q⟩ => ⟨v,e,v,rfl,q⟩) fun _ _ e => e
   ·obtain ⟨rfl,hp⟩:=hx
    refine wpAny_pure ?_
    show wpAny _ _ (newExc (.type "StopIteration") [] >>= _) _ _ _
    refine stop_raised (A:=A.in1) hh fun e h' he hk => ⟨e,rfl,he,over s₁ hp h' hk⟩
   ·exact wpAny_pure (wpAny_pure ⟨v,rfl,more v s₁ gs' hb hv⟩)
 ·obtain ⟨u,rfl,q⟩:=hv
  exact wpAny_pure q
 ·obtain ⟨x,rfl,hx,q⟩:=he
  refine wpAny_bind (wpAny_isInstance (T:="StopIteration") (b:=true) hx isSubtype_stop ?_)
  exact wpAny_pure q
theorem kf_keep {h h':Heap} (I:(KF w.params).In h) {L:Addr} (hL:188 ≤ L) (k:∀ b o,b ≠ L → h.get? b = some o → h'.get? b = some o):(KF w.params).In h' :=
 fun a o q => k a o (fun z => absurd (kf_lt q) (Nat.not_lt.mpr (z ▸ hL))) (I a o q)
variable {env:Env} {L e it:Addr} {P:Nat → Pos} {x:List Nat} {t:Tok}
theorem enum_mem:(enumN,Value.type "enumerate") ∈ biL:=by simp [biL]
theorem gen_start (hh:A.handled = none) (G:GE env L) (hL:188 ≤ L) (I:(KF w.params).In s.heap) {m:PySem.Str → Option Value} (hn:s.heap.Ns L m) (hm:m nAddr = some (.str (k x) t)) (hx:x.length ≤ 100000)
  (hi:it = s.heap.objs.size) (he:e = it + 1) {s₀:Shared} (hs:GSince L e it s₀ s) :
  Seg (model pw w) A (gR L e it) (gY L e it (esc 0 false x)) (esc 0 false x).length s₀ (.func (gBody P) env) ((model pw w).den (.func (gBody P) env)) [] s:=by
 refine seg_func ?_
 have hint:interactive env = false:=by unfold interactive;rw [G.fn];rfl
 obtain ⟨d1,d2,d3,d4,d5,d6,d7⟩:=nPos_ne
 unfold gBody
 refine seg_execs_cons (seg_exec (wpAny_Assign_Name (wpAny_Constant_int (gStore G hn G.k1 fun h1 hn1 hs1 => ?_)) rfl))
 refine seg_execs_cons (seg_exec (wpAny_Assign_Name (wpAny_Constant_bool (gStore G hn1 G.k2 fun h2 hn2 hs2 => ?_)) rfl))
 have I2:(KF w.params).In h2:=kf_keep I hL fun b o hb q => hs2.extBut b o hb (hs1.extBut b o hb q)
 have hsz:h2.objs.size = it:=by rw [hs2.1,hs1.1,hi]
 refine seg_execs_cons (seg_For (wpAny_Call_NameR (Calls.Name_function_global G.fn G.ke (Calls.loadGlobal_builtin (by rw [G.glob];exact ns_of I2 (by decide) (nsOk1 _)) (bi_glob _ enum_mem).2 (by rw [G.bi];exact ns_of I2 (by decide) (nsOk2 _)) (bi_glob _ enum_mem).1 ?_) (by decide))) (fun _ => rfl))
 refine callWith_type1 (Calls.spliced_cons (gLoad G hn2 G.k0 (v:=.str (k x) t) (by simp [d6,d7,hm]) (Calls.spliced_nil ?_) (by decide)))
 refine call_enumerate_str fun h3 he3 hst3 hsz3 hk3 => wpAny_pyIter_enum he3 fun p => ?_
 have hLit:L < it:=hi ▸ hn.lt
 have hs3:GSince L e it s₀ { s with heap:=h3,toks:=s.toks + 1 + 1 + 1 }:=hs.step (by rw [hsz3,hsz,hi];exact Nat.le_add_right _ _) fun b o b1 b2 b3 q => hk3 b o (hs2.extBut b o b1 (hs1.extBut b o b1 q))
 have hn3:h3.Ns L _:=hn2.at' fun o q => hk3 L o q
 replace he3:IsEnum h3 e it 0 .none:=by rw [he,← hsz];exact he3
 replace hst3:h3.IsStrIter it (strIterType (k x)) (k x) t 0:=by rw [← hsz];exact hst3
 have:=gen_loop (w:=w) (A:=A) (P:=P) (its:=esc 0 false x) hh G (by rw [he];exact Nat.ne_of_gt (Nat.lt_succ_of_lt hLit)) (Nat.ne_of_gt hLit) (by rw [he];exact Nat.lt_succ_self _) hx x 0 false s₀ _ _ .none rfl (Nat.zero_le _) hn3 (by simp) (by simp) he3 hst3 hs3 (by simp) p
 rw [hsz]
 subst he
 exact this
end
end
section
section
variable {w:World} {A:Around} {env:Env} {L e it Ga:Addr} {g:Nat} {P:Nat → Pos} {x:List Nat} {t:Tok} {its:List PV}
theorem chg_gen {W:Addr → Prop} {s₁ s₂:Shared} {gs':GenState} (hs:GSince L e it (s₁.setGen g .running) s₂) (hW:∀ b,b = L ∨ b = e ∨ b = it → W b) (hb:gs'.bare = true) (htk:s₁.toks ≤ s₂.toks) {h':Heap} (hk:∀ b o,s₂.heap.get? b = some o → h'.get? b = some o) :
  Chg W (· = g) s₁ { s₂.setGen g gs' with heap:=h' }:=by
 obtain ⟨h₂,tk₂,rfl,_,hk₂⟩:=hs
 refine ⟨fun b o hb e' => hk b o (hk₂ b o (fun q => hb (hW b (.inl q))) (fun q => hb (hW b (.inr (.inl q)))) (fun q => hb (hW b (.inr (.inr q)))) e'),fun i y hi e' => ?_,fun i y e' => ?_,rfl,htk⟩
 ·have hi:g ≠ i:=fun q => hi q.symm
  simpa [Shared.setGen,hi] using e'
 ·by_cases hi:g = i
  ·subst hi
   right
   simp [Shared.setGen] at e'
   by_cases hlt:g < s₁.gens.size
   ·simp [hlt] at e';rw [← e'];exact hb
   ·simp [hlt] at e'
  ·left
   simpa [Shared.setGen,hi] using e'
noncomputable def GSus (w:World) (A:Around) (L e it Ga:Addr) (g:Nat) (its ps:List PV) (s:Shared):Prop :=
 s.heap.IsGen Ga g ∧ (KF w.params).In s.heap ∧ ∃ gs,s.gens[g]? = some gs ∧ ∀ s'':Shared,(∀ b o,(b = L ∨ b = e ∨ b = it) → s.heap.get? b = some o → s''.heap.get? b = some o) → gs.Goes (model pw w) A.in1 (gR L e it) (gY L e it its) ps.length (.send .none) s''
theorem isGen_at {h h':Heap} (x:h.IsGen Ga g) (k:∀ o,h.get? Ga = some o → h'.get? Ga = some o):h'.IsGen Ga g:=let ⟨o,n,q,a,b⟩:=x;⟨o,n,q,k o a,b⟩
theorem pull_end {E:Value → Shared → Prop} {s:Shared} {gs:GenState} {Q:Option Value → Shared → Prop} (hh:A.handled = none) (hroom:A.depth < recursionLimit) (I:(KF w.params).In s.heap) (hg:s.heap.IsGen Ga g) (hgs:s.gens[g]? = some gs)
  (hgo:gs.Goes (model pw w) A.in1 (gR L e it) (gY L e it its) 0 (.send .none) (s.setGen g .running)) (hQ:∀ s',Chg (fun b => b = L ∨ b = e ∨ b = it) (· = g) s s' → Q none s'):wpAny (model pw w) A (pyNext (.ref Ga)) Q E s:=by
 refine wpAny_with_toks (Nat.le_refl _) (next_def_gen (P:=fun n s₀ s₁ => n = 0 ∧ GSince L e it s₀ s₁) hh (nolimit I) hroom hg hgs hgo (fun v s₁ gs' hb hv => ?_) fun s₁ hp h' hk htk => ?_)
 ·exact (hv.2.2.2 s₁ fun b o _ q => q).elim
 ·exact hQ _ (chg_gen hp.2 (fun _ q => q) rfl htk hk)
theorem pull_more {E:Value → Shared → Prop} {s:Shared} {gs:GenState} {Q:Option Value → Shared → Prop} {p:PV} {ps:List PV} (hh:A.handled = none) (hroom:A.depth < recursionLimit) (I:(KF w.params).In s.heap) (hL:188 ≤ L) (he:188 ≤ e) (hi:188 ≤ it)
  (hGL:Ga ≠ L ∧ Ga ≠ e ∧ Ga ≠ it) (hg:s.heap.IsGen Ga g) (hgs:s.gens[g]? = some gs)
  (hgo:gs.Goes (model pw w) A.in1 (gR L e it) (gY L e it its) (ps.length + 1) (.send .none) (s.setGen g .running)) (hsuf:its.drop (its.length - (p :: ps).length) = p :: ps)
  (hQ:∀ v s',Chg (fun b => b = L ∨ b = e ∨ b = it) (· = g) s s' → (∀ Y:Addr → Prop,(∀ b,Y b → b < s.heap.objs.size ∨ b = L ∨ b = Ga ∨ b = e ∨ b = it) → Rep w s'.heap Y s'.toks v p) → QuietIt w s' (.ref Ga) v → (e < s'.heap.objs.size ∧ it < s'.heap.objs.size) → GSus w A L e it Ga g its ps s' → Q (some v) s'):wpAny (model pw w) A (pyNext (.ref Ga)) Q E s:=by
 refine wpAny_with_toks (Nat.le_refl _) (next_def_gen (P:=fun n s₀ s₁ => n = 0 ∧ GSince L e it s₀ s₁) hh (nolimit I) hroom hg hgs hgo (fun v s₁ gs' hb hv htk => ?_) fun s₁ hp h' hk htk => ?_)
 ·obtain ⟨⟨p',hp',T,i,ti,c,u,rfl,rfl,⟨hT0,hTL,hTe,hTi⟩,hT⟩,hs,hsz,hkap⟩:=hv
  have hpp:p = .tup [.int i,.str c]:=by
   have h2:=hsuf
   rw [show (p :: ps).length = (ps.length + 1 - 1 + 1) from rfl,hp'] at h2
   exact (List.cons.inj h2).1.symm
  subst hpp
  have hg1:s₁.heap.IsGen Ga g:=by
   obtain ⟨h₂,tk₂,rfl,_,hk₂⟩:=hs
   exact isGen_at hg fun o q => hk₂ Ga o hGL.1 hGL.2.1 hGL.2.2 q
  have I1:(KF w.params).In s₁.heap:=by
   obtain ⟨h₂,tk₂,rfl,_,hk₂⟩:=hs
   exact fun a o q => hk₂ a o (fun z => absurd (kf_lt q) (Nat.not_lt.mpr (z ▸ hL))) (fun z => absurd (kf_lt q) (Nat.not_lt.mpr (z ▸ he))) (fun z => absurd (kf_lt q) (Nat.not_lt.mpr (z ▸ hi))) (I a o q)
  have hgs1:(s₁.setGen g gs').gens[g]? = some gs':=by
   obtain ⟨h₂,tk₂,rfl,_,hk₂⟩:=hs
   exact setGen_self (gs:=.running) (setGen_self hgs)
  have hTs:¬ T < s.heap.objs.size:=Nat.not_lt.mpr hT0
  refine hQ _ _ (chg_gen hs (fun _ q => q) hb htk (h':=s₁.heap) fun _ _ q => q) (fun Y hY => ?_) ?_ hsz ⟨hg1,I1,gs',hgs1,fun s'' hal => hkap s'' hal⟩
  ·refine .tup ⟨_,hT,rfl,_,rfl⟩ (fun z => ?_) (.cons (.int i ti) (.cons (.str c u) .nil))
   rcases hY _ z with q | q | q | q | q
   ·exact hTs q
   ·exact absurd hTL (q ▸ Nat.lt_irrefl _)
   ·obtain ⟨_,_,_,qg,_⟩:=hg
    exact hTs (q ▸ Heap.lt_size qg)
   ·exact absurd hTe (q ▸ Nat.lt_irrefl _)
   ·exact absurd hTi (q ▸ Nat.lt_irrefl _)
  ·obtain ⟨o,n,q,a,b,_⟩:=hg1
   exact quiet_of (s:=s₁.setGen g gs') a b (by decide)
 ·exact absurd hp.1 (Nat.succ_ne_zero _)
theorem sus_pulls {X₀:Addr → Prop} {s₀:Shared} (hh:A.handled = none) (hroom:A.depth < recursionLimit) (hL:188 ≤ L) (he:188 ≤ e) (hi:188 ≤ it) (hGL:Ga ≠ L ∧ Ga ≠ e ∧ Ga ≠ it) :
  ∀ (ps:List PV) (W:Addr → Prop) (s:Shared),(∀ b,W b ↔ b = L ∨ b = Ga ∨ b = e ∨ b = it) → its.drop (its.length - ps.length) = ps → GSus w A L e it Ga g its ps s → Pulls w A (.ref Ga) (· = g) X₀ s₀ ps W s:=by
 have later:∀ {ps:List PV} {W:Addr → Prop} {s s₁:Shared},(∀ b,b = L ∨ b = Ga ∨ b = e ∨ b = it → W b) → GSus w A L e it Ga g its ps s → Later (KW X₀ s₀ W) s s₁ →
   ∃ gs,s₁.heap.IsGen Ga g ∧ (KF w.params).In s₁.heap ∧ s₁.gens[g]? = some gs ∧ gs.Goes (model pw w) A.in1 (gR L e it) (gY L e it its) ps.length (.send .none) (s₁.setGen g .running):=by
  rintro ps W s s₁ hW ⟨hg,I,gs,hgs,hgo⟩ l
  exact ⟨gs,isGen_at hg fun o q => l.heap Ga o (.inl (hW _ (.inr (.inl rfl)))) q,fun a o q => l.heap a o (.inr (.inl (kf_lt q))) (I a o q),l.gens g gs hgs,hgo (s₁.setGen g .running) fun b o hb q => l.heap b o (.inl (hW b (hb.imp id .inr))) q⟩
 intro ps
 induction ps with
 | nil =>
  intro W s hW hsuf hS s₁ Q E l hQ
  obtain ⟨gs,hg,I,hgs,hgo⟩:=later (fun b => (hW b).mpr) hS l
  exact pull_end hh hroom I hg hgs hgo fun s' c => hQ s' (c.mono (fun b hb => .inl ((hW b).mpr (hb.imp id .inr))) fun _ q => .inl q)
 | cons p ps ih =>
  intro W s hW hsuf hS s₁ Q E l hQ
  obtain ⟨gs,hg,I,hgs,hgo⟩:=later (fun b => (hW b).mpr) hS l
  exact pull_more hh hroom I hL he hi hGL hg hgs hgo hsuf fun v s' c hr hq _ hS' => hQ v s' W (c.mono (fun b hb => .inl ((hW b).mpr (hb.imp id .inr))) fun _ q => .inl q) (fun _ q => q) (fun _ q => .inl q) (fun _ q => .inl q)
   (fun Y _ hY => hr Y fun b q => (hY b q).elim .inl fun q => .inr ((hW b).mp q)) (fun _ _ => hq) (ih W s' hW (suffix_step hsuf).1 hS')
theorem gen_pulls {X₀:Addr → Prop} {s₀:Shared} {s:Shared} {m:PySem.Str → Option Value} (hh:A.handled = none) (hroom:A.depth < recursionLimit) (G:GE env L) (hL:188 ≤ L) (hGL:Ga ≠ L) (I:(KF w.params).In s.heap) (hn:s.heap.Ns L m)
  (hm:m nAddr = some (.str (k x) t)) (hx:x.length ≤ 100000) (hg:s.heap.IsGen Ga g) (hgs:s.gens[g]? = some (.fresh (.func (gBody P) env))) {W:Addr → Prop} (hW:∀ b,W b ↔ b = L ∨ b = Ga) :
  Pulls w A (.ref Ga) (· = g) X₀ s₀ (esc 0 false x) W s:=by
 have go:∀ s₁,Later (KW X₀ s₀ W) s s₁ → ∃ e it,s₁.heap.get? e = none ∧ s₁.heap.get? it = none ∧ 188 ≤ e ∧ 188 ≤ it ∧ (Ga ≠ L ∧ Ga ≠ e ∧ Ga ≠ it) ∧ s₁.heap.IsGen Ga g ∧ (KF w.params).In s₁.heap ∧ s₁.gens[g]? = some (.fresh (.func (gBody P) env)) ∧
   (GenState.fresh (.func (gBody P) env)).Goes (model pw w) A.in1 (gR L e it) (gY L e it (esc 0 false x)) (esc 0 false x).length (.send .none) (s₁.setGen g .running):=by
  intro s₁ l
  have hn1:s₁.heap.Ns L m:=hn.at' fun o q => l.heap L o (.inl ((hW _).mpr (.inl rfl))) q
  have hg1:s₁.heap.IsGen Ga g:=isGen_at hg fun o q => l.heap Ga o (.inl ((hW _).mpr (.inr rfl))) q
  have hL1:L < s₁.heap.objs.size:=hn1.lt
  have hG1:Ga < s₁.heap.objs.size:=let ⟨_,_,_,q,_⟩:=hg1;Heap.lt_size q
  have I1:(KF w.params).In s₁.heap:=fun a o q => l.heap a o (.inr (.inl (kf_lt q))) (I a o q)
  refine ⟨s₁.heap.objs.size + 1,s₁.heap.objs.size,Heap.get?_none_of_le (Nat.le_succ _),Heap.get?_none_of_le (Nat.le_refl _),?_,?_,⟨hGL,Nat.ne_of_lt (Nat.lt_succ_of_lt hG1),Nat.ne_of_lt hG1⟩,hg1,I1,l.gens g _ hgs,rfl,?_⟩
  ·exact Nat.le_trans hL (Nat.le_of_lt (Nat.lt_succ_of_lt hL1))
  ·exact Nat.le_trans hL (Nat.le_of_lt hL1)
  ·exact gen_start (s:=s₁.setGen g .running) (A:=A.in1) hh G hL I1 hn1 hm hx rfl rfl (GSince.refl _ _ _ _)
 have wide:∀ {e it:Addr} {s₁ s':Shared},s₁.heap.get? e = none → s₁.heap.get? it = none → Chg (fun b => b = L ∨ b = e ∨ b = it) (· = g) s₁ s' → Chg W (· = g) s₁ s':=fun e0 i0 c => c.mono (fun b hb => by
  rcases hb with rfl | rfl | rfl
  ·exact .inl ((hW _).mpr (.inl rfl))
  ·exact .inr e0
  ·exact .inr i0) fun _ q => .inl q
 cases hits:esc 0 false x with
 | nil =>
  intro s₁ Q E l hQ
  obtain ⟨e,it,e0,i0,e1,i1,hGe,hg1,I1,hgs1,hgo⟩:=go s₁ l
  rw [hits] at hgo
  exact pull_end hh hroom I1 hg1 hgs1 hgo fun s' c => hQ s' (wide e0 i0 c)
 | cons p ps =>
  intro s₁ Q E l hQ
  obtain ⟨e,it,e0,i0,e1,i1,hGe,hg1,I1,hgs1,hgo⟩:=go s₁ l
  rw [hits] at hgo
  refine pull_more hh hroom I1 hL e1 i1 hGe hg1 hgs1 hgo (by rw [Nat.sub_self];rfl) fun v s' c hr hq hse hS' => hQ v s' (fun b => W b ∨ b = e ∨ b = it) (wide e0 i0 c) (fun _ q => .inl q) (fun b hb => ?_) (fun b hb => ?_) (fun Y _ hY => hr Y fun b q => ?_) (fun _ _ => hq) ?_
  ·rcases hb with q | rfl | rfl
   ·exact .inl q
   ·exact .inr e0
   ·exact .inr i0
  ·rcases hb with q | rfl | rfl
   ·exact .inl q
   ·exact .inr hse.1
   ·exact .inr hse.2
  ·rcases hY b q with q | q | q | q
   ·exact .inl q
   ·rcases (hW b).mp q with q | q
    ·exact .inr (.inl q)
    ·exact .inr (.inr (.inl q))
   ·exact .inr (.inr (.inr (.inl q)))
   ·exact .inr (.inr (.inr (.inr q)))
  ·refine sus_pulls hh hroom hL e1 i1 hGe ps _ s' (fun b => ⟨fun hb => ?_,fun hb => ?_⟩) (suffix_step (its:=p :: ps) (by rw [Nat.sub_self];rfl)).1 hS'
   ·rcases hb with q | q | q
    ·rcases (hW b).mp q with q | q
     ·exact .inl q
     ·exact .inr (.inl q)
    ·exact .inr (.inr (.inl q))
    ·exact .inr (.inr (.inr q))
   ·rcases hb with q | q | q | q
    ·exact .inl ((hW b).mpr (.inl q))
    ·exact .inl ((hW b).mpr (.inr q))
    ·exact .inr (.inl q)
    ·exact .inr (.inr q)
end
end
section
noncomputable def fIs:List Nat:=[1,2,3,5,6,7,10,12,64,65,67,68,69,70,71,72,73,74]
noncomputable def fI (f:Nat):Nat:=fIs.getD f 0
noncomputable def fSc (f:Nat):Scope:=fnS (fI f)
noncomputable def fPar (f:Nat):Arguments:=fnP (fI f)
noncomputable def fBd (f:Nat):List Stmt:=match fnB (fI f) with | .stmts b => b | _ => []
noncomputable def fdOf (P:Params) (a:Addr):Option FuncData:=match nsO P a with | ⟨_,_,.func fd,_⟩ => some fd | _ => none
noncomputable def dFlds {α:Type} (f:Array Value → Option α):Data → Option α
 | .fields vs => f vs
 | _ => none
theorem dFlds_ {α:Type} {f:Array Value → Option α} {d:Data} {z:α} (h:dFlds f d = some z):∃ vs,d = .fields vs ∧ f vs = some z:=by cases d <;> first | exact (nS h).elim | exact ⟨_,rfl,h⟩
noncomputable def cdName (P:Params) (cd:Value):Option PySem.Str:=vRef (fun c => if decide (c < 188) then dFlds (fun vs => (vs[1]? : Option Value).bind (vStr some)) (nsO P c).data else none) cd
noncomputable def fdOk (P:Params) (f:Nat):Prop:=fdOf P (fA f) = (fdOf P (fA f)).map fun fd => Calls.docDef (fnm f) (fPar f) (fBd f) (fSc f) fd.pyModule fd.code fd.doc
theorem fd_0 (P:Params):fdOk P 0:=by unfold fdOk;kernel_rfl
theorem fd_1 (P:Params):fdOk P 1:=by unfold fdOk;kernel_rfl
theorem fd_2 (P:Params):fdOk P 2:=by unfold fdOk;kernel_rfl
theorem fd_3 (P:Params):fdOk P 3:=by unfold fdOk;kernel_rfl
theorem fd_4 (P:Params):fdOk P 4:=by unfold fdOk;kernel_rfl
theorem fd_5 (P:Params):fdOk P 5:=by unfold fdOk;kernel_rfl
theorem fd_6 (P:Params):fdOk P 6:=by unfold fdOk;kernel_rfl
theorem fd_7 (P:Params):fdOk P 7:=by unfold fdOk;kernel_rfl
theorem fd_8 (P:Params):fdOk P 8:=by unfold fdOk;kernel_rfl
theorem fd_9 (P:Params):fdOk P 9:=by unfold fdOk;kernel_rfl
theorem fd_10 (P:Params):fdOk P 10:=by unfold fdOk;kernel_rfl
theorem fd_11 (P:Params):fdOk P 11:=by unfold fdOk;kernel_rfl
theorem fd_12 (P:Params):fdOk P 12:=by unfold fdOk;kernel_rfl
theorem fd_13 (P:Params):fdOk P 13:=by unfold fdOk;kernel_rfl
theorem fd_14 (P:Params):fdOk P 14:=by unfold fdOk;kernel_rfl
theorem fd_15 (P:Params):fdOk P 15:=by unfold fdOk;kernel_rfl
theorem fd_16 (P:Params):fdOk P 16:=by unfold fdOk;kernel_rfl
theorem fd_17 (P:Params):fdOk P 17:=by unfold fdOk;kernel_rfl
theorem fd_some (P:Params):(List.range 18).all (fun f => match fdOf P (fA f) with | some fd => cdName P fd.code == some (fnm f) | none => false) = true:=by kernel_rfl
theorem fd_all (P:Params) {f:Nat} (h:f < 18):fdOk P f:=by
 match f,h with
 | 0,_ => exact fd_0 P | 1,_ => exact fd_1 P | 2,_ => exact fd_2 P | 3,_ => exact fd_3 P | 4,_ => exact fd_4 P | 5,_ => exact fd_5 P | 6,_ => exact fd_6 P | 7,_ => exact fd_7 P | 8,_ => exact fd_8 P
 | 9,_ => exact fd_9 P | 10,_ => exact fd_10 P | 11,_ => exact fd_11 P | 12,_ => exact fd_12 P | 13,_ => exact fd_13 P | 14,_ => exact fd_14 P | 15,_ => exact fd_15 P | 16,_ => exact fd_16 P | 17,_ => exact fd_17 P
 | n + 18,h => exact absurd h (by lia)
theorem fA_lt {f:Nat} (h:f < 18):fA f < 188:=by
 have:(List.range 18).all (fun f => decide (fA f < 188)) = true:=by decide
 simpa using List.all_eq_true.mp this f (List.mem_range.mpr h)
theorem fn_obj {w:World} {h:Heap} (I:(KF w.params).In h) {f:Nat} (hf:f < 18):∃ o pm cd doc,h.get? (fA f) = some o ∧ o.data = .func (Calls.docDef (fnm f) (fPar f) (fBd f) (fSc f) pm cd doc) ∧ h.CodeRec cd (fnm f):=by
 have e:=kf_get I (kf_some (P:=w.params) (fA_lt hf))
 have h1:=fd_all w.params hf
 have h2:=List.all_eq_true.mp (fd_some w.params) f (List.mem_range.mpr hf)
 unfold fdOk at h1
 cases hfd:fdOf w.params (fA f) with
 | none => rw [hfd] at h2;exact (fT h2).elim
 | some fd =>
  rw [hfd] at h1 h2
  have h1:fd = Calls.docDef (fnm f) (fPar f) (fBd f) (fSc f) fd.pyModule fd.code fd.doc:=Option.some.inj h1
  refine ⟨_,fd.pyModule,fd.code,fd.doc,e,?_,?_⟩
  ·rw [← h1]
   unfold fdOf at hfd
   cases ho:nsO w.params (fA f) with
   | mk c d dt sl =>
    rw [ho] at hfd
    have hd:∃ f,dt = .func f:=by clear ho;cases dt <;> first | exact (nS hfd).elim | exact ⟨_,rfl⟩
    obtain ⟨f,rfl⟩:=hd
    obtain rfl:=Option.some.inj hfd
    rfl
  ·have h2:cdName w.params fd.code = some (fnm f):=eq_of_beq h2
   obtain ⟨c,hc,h2⟩:=vRef_ h2
   obtain ⟨hlt,h2⟩:=if_then h2
   obtain ⟨vs,ho,h2⟩:=dFlds_ h2
   obtain ⟨v,hv,h2⟩:=Option.bind_eq_some_iff.mp h2
   obtain ⟨q,t,rfl,h2⟩:=vStr_ h2
   obtain rfl:=Option.some.inj h2
   exact ⟨c,_,vs,t,hc,kf_get I (kf_some (of_decide_eq_true hlt)),ho,hv⟩
noncomputable def npOf:Nat → Nat:=fun f => ([1,1,1,3,3,3,1,1,1,1,1,1,2,2,2,2,3,1]:List Nat).getD f 0
noncomputable def bindsOf (f:Nat) (vs:List Value):List (PySem.Str × Value):=((fPar f).args.map (·.arg)).zip vs
theorem bind_0 {pm cd doc:Value} (a:Value):bindArgs (Calls.docDef (fnm 0) (fPar 0) (fBd 0) (fSc 0) pm cd doc) ⟨[a],[]⟩ = pure (bindsOf 0 [a]):=by rfl
theorem bind_1 {pm cd doc:Value} (a:Value):bindArgs (Calls.docDef (fnm 1) (fPar 1) (fBd 1) (fSc 1) pm cd doc) ⟨[a],[]⟩ = pure (bindsOf 1 [a]):=by rfl
theorem bind_2 {pm cd doc:Value} (a:Value):bindArgs (Calls.docDef (fnm 2) (fPar 2) (fBd 2) (fSc 2) pm cd doc) ⟨[a],[]⟩ = pure (bindsOf 2 [a]):=by rfl
theorem bind_3 {pm cd doc:Value} (a b c:Value):bindArgs (Calls.docDef (fnm 3) (fPar 3) (fBd 3) (fSc 3) pm cd doc) ⟨[a,b,c],[]⟩ = pure (bindsOf 3 [a,b,c]):=by rfl
theorem bind_4 {pm cd doc:Value} (a b c:Value):bindArgs (Calls.docDef (fnm 4) (fPar 4) (fBd 4) (fSc 4) pm cd doc) ⟨[a,b,c],[]⟩ = pure (bindsOf 4 [a,b,c]):=by rfl
theorem bind_5 {pm cd doc:Value} (a b c:Value):bindArgs (Calls.docDef (fnm 5) (fPar 5) (fBd 5) (fSc 5) pm cd doc) ⟨[a,b,c],[]⟩ = pure (bindsOf 5 [a,b,c]):=by rfl
theorem bind_6 {pm cd doc:Value} (a:Value):bindArgs (Calls.docDef (fnm 6) (fPar 6) (fBd 6) (fSc 6) pm cd doc) ⟨[a],[]⟩ = pure (bindsOf 6 [a]):=by rfl
theorem bind_7 {pm cd doc:Value} (a:Value):bindArgs (Calls.docDef (fnm 7) (fPar 7) (fBd 7) (fSc 7) pm cd doc) ⟨[a],[]⟩ = pure (bindsOf 7 [a]):=by rfl
theorem bind_8 {pm cd doc:Value} (a:Value):bindArgs (Calls.docDef (fnm 8) (fPar 8) (fBd 8) (fSc 8) pm cd doc) ⟨[a],[]⟩ = pure (bindsOf 8 [a]):=by rfl
theorem bind_9 {pm cd doc:Value} (a:Value):bindArgs (Calls.docDef (fnm 9) (fPar 9) (fBd 9) (fSc 9) pm cd doc) ⟨[a],[]⟩ = pure (bindsOf 9 [a]):=by rfl
theorem bind_10 {pm cd doc:Value} (a:Value):bindArgs (Calls.docDef (fnm 10) (fPar 10) (fBd 10) (fSc 10) pm cd doc) ⟨[a],[]⟩ = pure (bindsOf 10 [a]):=by rfl
theorem bind_11 {pm cd doc:Value} (a:Value):bindArgs (Calls.docDef (fnm 11) (fPar 11) (fBd 11) (fSc 11) pm cd doc) ⟨[a],[]⟩ = pure (bindsOf 11 [a]):=by rfl
theorem bind_12 {pm cd doc:Value} (a b:Value):bindArgs (Calls.docDef (fnm 12) (fPar 12) (fBd 12) (fSc 12) pm cd doc) ⟨[a,b],[]⟩ = pure (bindsOf 12 [a,b]):=by rfl
theorem bind_13 {pm cd doc:Value} (a b:Value):bindArgs (Calls.docDef (fnm 13) (fPar 13) (fBd 13) (fSc 13) pm cd doc) ⟨[a,b],[]⟩ = pure (bindsOf 13 [a,b]):=by rfl
theorem bind_14 {pm cd doc:Value} (a b:Value):bindArgs (Calls.docDef (fnm 14) (fPar 14) (fBd 14) (fSc 14) pm cd doc) ⟨[a,b],[]⟩ = pure (bindsOf 14 [a,b]):=by rfl
theorem bind_15 {pm cd doc:Value} (a b:Value):bindArgs (Calls.docDef (fnm 15) (fPar 15) (fBd 15) (fSc 15) pm cd doc) ⟨[a,b],[]⟩ = pure (bindsOf 15 [a,b]):=by rfl
theorem bind_16 {pm cd doc:Value} (a b c:Value):bindArgs (Calls.docDef (fnm 16) (fPar 16) (fBd 16) (fSc 16) pm cd doc) ⟨[a,b,c],[]⟩ = pure (bindsOf 16 [a,b,c]):=by rfl
theorem bind_17 {pm cd doc:Value} (a:Value):bindArgs (Calls.docDef (fnm 17) (fPar 17) (fBd 17) (fSc 17) pm cd doc) ⟨[a],[]⟩ = pure (bindsOf 17 [a]):=by rfl
theorem lt18 {P:Nat → Prop} (h0:P 0) (h1:P 1) (h2:P 2) (h3:P 3) (h4:P 4) (h5:P 5) (h6:P 6) (h7:P 7) (h8:P 8) (h9:P 9) (h10:P 10) (h11:P 11) (h12:P 12) (h13:P 13) (h14:P 14) (h15:P 15) (h16:P 16) (h17:P 17) {f:Nat} (h:f < 18):P f:=by
 have all:∀ i ∈ [0,1,2,3,4,5,6,7,8,9,10,11,12,13,14,15,16,17],P i:=by simp only [List.forall_mem_cons];exact ⟨h0,h1,h2,h3,h4,h5,h6,h7,h8,h9,h10,h11,h12,h13,h14,h15,h16,h17,nofun⟩
 exact all f (List.mem_range.mpr h)
theorem len1 {P:List Value → Prop} (h:∀ a,P [a]) (vs:List Value) (e:vs.length = 1):P vs:=let ⟨a,q⟩:=List.length_eq_one_iff.mp e;q ▸ h a
theorem len2 {P:List Value → Prop} (h:∀ a b,P [a,b]) (vs:List Value) (e:vs.length = 2):P vs:=by
 cases vs with
 | nil => cases e
 | cons a r => exact len1 (P:=fun r => P (a :: r)) (h a) r (Nat.succ.inj e)
theorem len3 {P:List Value → Prop} (h:∀ a b c,P [a,b,c]) (vs:List Value) (e:vs.length = 3):P vs:=by
 cases vs with
 | nil => cases e
 | cons a r => exact len2 (P:=fun r => P (a :: r)) (h a) r (Nat.succ.inj e)
noncomputable def BindOk (pm cd doc:Value) (f:Nat):Prop:=∀ vs:List Value,vs.length = npOf f → bindArgs (Calls.docDef (fnm f) (fPar f) (fBd f) (fSc f) pm cd doc) ⟨vs,[]⟩ = pure (bindsOf f vs)
theorem bind_all {f:Nat} (h:f < 18) {pm cd doc:Value} {vs:List Value} (hl:vs.length = npOf f):bindArgs (Calls.docDef (fnm f) (fPar f) (fBd f) (fSc f) pm cd doc) ⟨vs,[]⟩ = pure (bindsOf f vs) :=
 lt18 (P:=BindOk pm cd doc) (len1 bind_0) (len1 bind_1) (len1 bind_2) (len3 bind_3) (len3 bind_4) (len3 bind_5) (len1 bind_6) (len1 bind_7) (len1 bind_8) (len1 bind_9) (len1 bind_10) (len1 bind_11) (len2 bind_12) (len2 bind_13) (len2 bind_14) (len2 bind_15) (len3 bind_16) (len1 bind_17) h vs hl
end
section
structure AOk (A:Around) (d:Nat):Prop where
 hd:A.handled = none
 dep:A.depth + d < 990
 un:A.units + 8 * d + 300 < cLine
theorem kf_size {P:Params} {h:Heap} (I:(KF P).In h):188 ≤ h.objs.size:=Heap.lt_size (kf_get I (kf_some (a:=187) (by decide)))
inductive ArgsRep (w:World) (h:Heap) (X:Addr → Prop) (n:Nat):List Value → List Slot → (Addr → Prop) → Prop
 | nil:ArgsRep w h X n [] [] noA
 | val {v:Value} {p:PV} {vs:List Value} {l:List Slot} {U:Addr → Prop} (r:Rep w h (fun b => X b ∨ U b) n v p) (q:ArgsRep w h X n vs l U):ArgsRep w h X n (v :: vs) (.val p :: l) U
 | own {D:Addr} {l:List (Int × PV)} (r:SlotRep w h (fun b => X b ∨ b = D) n D (.ref D) (.ownD l)) (hx:¬ X D) (lo:188 ≤ D):ArgsRep w h X n [.ref D] [.ownD l] (· = D)
noncomputable def CallsOk (w:World) (C:Calls) (d:Nat):Prop:=∀ f args p,C f args = some p → 0 < f → f < 18 → ∀ (A:Around) (Z U:Addr → Prop) (s:Shared) (vs:List Value) (Q:Value → Shared → Prop) (E:Value → Shared → Prop),
 AOk A d → (KF w.params).In s.heap → 1 ≤ s.toks → (∀ a,Z a → a < s.heap.objs.size) → (∀ a,Low a → Z a) → ArgsRep w s.heap Z s.toks vs args U →
 (∀ s' v,Chg U noG s s' → Rep w s'.heap Z s'.toks v p → Q v s') → wpAny (model pw w) A (call (.ref (fA f)) vs) Q E s
section
variable {w:World} {A:Around} {penv:Env} {G:List PySem.Str} {R:List (PySem.Str × Nat)} {N:Nat} {Z:Addr → Prop} {O:Nat → Addr} {ev ev':Ev} {s:Shared} {p:PV}
noncomputable def SndE (w:World) (A:Around) (penv:Env) (R:List (PySem.Str × Nat)) (Z:Addr → Prop) (O:Nat → Addr) (s:Shared) (t:Sem Value) (p:PV) (ev':Ev):Prop :=
 ∀ (Q:Value → Shared → Prop) (E:Value → Shared → Prop),(∀ s' v,Ext penv.locals s s' → s.heap.objs.size ≤ s'.heap.objs.size → Inv w penv R Z O ev' s'.heap s'.toks → Rep w s'.heap (XS Z penv O ev') s'.toks v p → Q v s') → wpAny (model pw w) A t Q E s
noncomputable def SndL (w:World) (A:Around) (penv:Env) (R:List (PySem.Str × Nat)) (Z:Addr → Prop) (O:Nat → Addr) (s:Shared) (t:Sem (List Value)) (ps:List PV) (ev':Ev):Prop :=
 ∀ (Q:List Value → Shared → Prop) (E:Value → Shared → Prop),(∀ s' vs,Ext penv.locals s s' → s.heap.objs.size ≤ s'.heap.objs.size → Inv w penv R Z O ev' s'.heap s'.toks → Reps w s'.heap (XS Z penv O ev') s'.toks vs ps → Q vs s') → wpAny (model pw w) A t Q E s
noncomputable def SndB (w:World) (A:Around) (penv:Env) (R:List (PySem.Str × Nat)) (Z:Addr → Prop) (O:Nat → Addr) (s:Shared) (t:Sem Bool) (b:Bool) (ev':Ev):Prop :=
 ∀ (Q:Bool → Shared → Prop) (E:Value → Shared → Prop),(∀ s',Ext penv.locals s s' → s.heap.objs.size ≤ s'.heap.objs.size → Inv w penv R Z O ev' s'.heap s'.toks → Q b s') → wpAny (model pw w) A t Q E s
theorem SndE.mono {t:Sem Value} {Q:Value → Shared → Prop} {E:Value → Shared → Prop} (x:SndE w A penv R Z O s t p ev') (h:∀ s' v,Ext penv.locals s s' → s.heap.objs.size ≤ s'.heap.objs.size → Inv w penv R Z O ev' s'.heap s'.toks → Rep w s'.heap (XS Z penv O ev') s'.toks v p → Q v s'):wpAny (model pw w) A t Q E s:=x Q E h
theorem SndE.of_gives {t:Sem Value} (S:Stat penv G R N) (I:Inv w penv R Z O ev s.heap s.toks) (g:Gives w A penv.locals (XS Z penv O ev) s t p):SndE w A penv R Z O s t p ev :=
 fun Q E hQ => wpAny_grow (g _ _ fun s' v x r hz _ => hQ s' v x hz (I.ext S x hz) r)
theorem SndE.of_givesB {t:Sem Value} {b:Bool} (S:Stat penv G R N) (I:Inv w penv R Z O ev s.heap s.toks) (g:GivesB w A penv.locals s t b):SndE w A penv R Z O s t (.bool b) ev :=
 fun Q E hQ => wpAny_grow (g _ _ fun s' x hz _ => hQ s' _ x hz (I.ext S x hz) (.bool b))
theorem Inv.lx (I:Inv w penv R Z O ev s.heap s.toks):∀ a,XS Z penv O ev a → a < s.heap.objs.size:=I.xex (kf_size I.base)
theorem Rep.go {s':Shared} {v:Value} (r:Rep w s.heap (XS Z penv O ev) s.toks v p) (x:Ext penv.locals s s') (l:Le ev ev'):Rep w s'.heap (XS Z penv O ev') s'.toks v p:=(r.ext x).le l
theorem Reps.go {s':Shared} {vs:List Value} {ps:List PV} (r:Reps w s.heap (XS Z penv O ev) s.toks vs ps) (x:Ext penv.locals s s') (l:Le ev ev'):Reps w s'.heap (XS Z penv O ev') s'.toks vs ps:=(r.ext x).le l
theorem Le.len (l:Le ev ev') (h:ev.length = N):ev'.length = N:=l.1.trans h
theorem toks1 (I:Inv w penv R Z O ev s.heap s.toks) (S:Stat penv G R N):Inv w penv R Z O ev s.heap (s.toks + 1):=I.ext (s:=s) (s':={ s with toks:=s.toks + 1 }) S (Ext.toks _ s _ (Nat.le_succ _)) (Nat.le_refl _)
theorem snd_const {k0:Nat} {pos:Pos} {c:Const} (S:Stat penv G R N) (I:Inv w penv R Z O ev s.heap s.toks)
  (h:(c = .none ∧ p = .none) ∨ (∃ b,c = .bool b ∧ p = .bool b) ∨ (∃ i,c = .int i ∧ p = .int i) ∨ (∃ u,c = .float u ∧ p = .flt u) ∨ (∃ x:PySem.Str,c = .str x ∧ p = .str x.cps.toList)) :
  SndE w A penv R Z O s (eval (.Constant c k0 pos) penv) p ev:=by
 intro Q E hQ
 have T:=Ext.toks penv.locals s (s.toks + 1) (Nat.le_succ _)
 rcases h with ⟨rfl,rfl⟩ | ⟨b,rfl,rfl⟩ | ⟨i,rfl,rfl⟩ | ⟨u,rfl,rfl⟩ | ⟨x,rfl,rfl⟩
 ·exact wpAny_Constant_none (hQ s _ (Ext.refl _ _) (Nat.le_refl _) I .none)
 ·exact wpAny_Constant_bool (hQ s _ (Ext.refl _ _) (Nat.le_refl _) I (.bool b))
 ·exact wpAny_Constant_int (hQ _ _ T (Nat.le_refl _) (toks1 I S) (.int i _))
 ·exact PySem.wpAny_Constant_float (hQ _ _ T (Nat.le_refl _) (toks1 I S) (.flt u _ (Nat.ne_of_gt I.pos) (Nat.lt_succ_self _)))
 ·refine wpAny_Constant_str (hQ _ _ T (Nat.le_refl _) (toks1 I S) ?_)
  have:x = k x.cps.toList:=by obtain ⟨⟨l⟩⟩:=x;rfl
  rw [this]
  exact .str _ _
theorem slot_ne (S:Stat penv G R N) (I:Inv w penv R Z O ev s.heap s.toks) {i:Nat} {t:Slot} (hg:getS ev i = some t) {v:Value} (r:SlotRep w s.heap (XS Z penv O ev) s.toks (O i) v t) {a:Addr} (ha:v = .ref a):a ≠ penv.locals:=by
 cases t with
 | val p =>
  have r:Rep w s.heap (XS Z penv O ev) s.toks v p:=r
  subst ha
  cases r with
  | tup _ hx _ => rintro rfl;exact hx xs_loc
  | list _ hx _ => rintro rfl;exact hx xs_loc
  | dict _ _ hx _ _ => rintro rfl;exact hx xs_loc
  | gl g => intro e;exact absurd (show glA g < 188 by cases g <;> decide) (Nat.not_lt.mpr (e ▸ S.lo))
 | ownL l => obtain ⟨rfl,_⟩:=r;cases ha;exact (I.ne i _ hg rfl).1
 | ownD l => obtain ⟨rfl,_⟩:=r;cases ha;exact (I.ne i _ hg rfl).1
theorem snd_var {i:Nat} {y:PySem.Str} {pos:Pos} {t:Slot} (S:Stat penv G R N) (I:Inv w penv R Z O ev s.heap s.toks) (hR:R.lookup y = some i) (hg:getS ev i = some t) :
  SndE w A penv R Z O s (eval (.Name y pos) penv) (froz t) (setS ev i (.val (froz t))):=by
 intro Q E hQ
 obtain ⟨v,nm,r⟩:=I.vars y i t hR hg
 obtain ⟨I',hf⟩:=I.froz hg
 exact load_name S.fn nm (S.dbg y i hR) (hQ s v (Ext.refl _ _) (Nat.le_refl _) I' (hf v r))
theorem Cont.go {s':Shared} {v:Value} (c:Cont w s.heap (XS Z penv O ev) s.toks v p) (hne:∀ a,v = .ref a → a ≠ penv.locals) (x:Ext penv.locals s s') (l:Le ev ev'):Cont w s'.heap (XS Z penv O ev') s'.toks v p:=by
 cases p with
 | list q => obtain ⟨a,vs,rfl,⟨o,e,c⟩,hr⟩:=c;exact ⟨a,vs,rfl,⟨o,x.heap a o (hne a rfl) e,c⟩,hr.go x l⟩
 | dict q => obtain ⟨a,kvs,ep,rfl,⟨o,es,e,c⟩,hs,hk,hr⟩:=c;exact ⟨a,kvs,ep,rfl,⟨o,es,x.heap a o (hne a rfl) e,c⟩,hs,hk,hr.go x l⟩
 | _ => exact Rep.go c x l
theorem load_slot {i:Nat} {y:PySem.Str} {pos:Pos} {t:Slot} {Q:Value → Shared → Prop} {E:Value → Shared → Prop} (S:Stat penv G R N) (I:Inv w penv R Z O ev s.heap s.toks) (hR:R.lookup y = some i) (hg:getS ev i = some t)
  (hQ:∀ v,Cont w s.heap (XS Z penv O ev) s.toks v (froz t) → (∀ a,v = .ref a → a ≠ penv.locals) → SlotRep w s.heap (XS Z penv O ev) s.toks (O i) v t → Q v s):wpAny (model pw w) A (eval (.Name y pos) penv) Q E s:=by
 obtain ⟨v,nm,r⟩:=I.vars y i t hR hg
 exact load_name S.fn nm (S.dbg y i hR) (hQ v r.cont (fun a ha => slot_ne S I hg r ha) r)
theorem snd_bin {op:Bop} {x y:PV} {l r:Expr} {pos:Pos} {ev₁ ev₂:Ev} (hA:A.handled = none) (S:Stat penv G R N) (hb:binop op x y = some p)
  (L2:Le ev₁ ev₂) (h1:SndE w A penv R Z O s (eval l penv) x ev₁) (h2:∀ s₁,Inv w penv R Z O ev₁ s₁.heap s₁.toks → SndE w A penv R Z O s₁ (eval r penv) y ev₂) :
  SndE w A penv R Z O s (eval (.BinOp l (boOf op) r pos) penv) p ev₂:=by
 intro Q E hQ
 refine wpAny_BinOp (h1.mono fun s₁ v X1 z1 I1 r1 => (h2 s₁ I1).mono fun s₂ u X2 z2 I2 r2 => ?_)
 refine SndE.of_gives S I2 (snd_binop hA I2.pos xs_loc I2.lx I2.ns hb (r1.go X2 L2) r2) Q E fun s₃ v' X3 z3 I3 r3 => ?_
 exact hQ s₃ v' ((X1.trans X2).trans X3) (Nat.le_trans z1 (Nat.le_trans z2 z3)) I3 r3
theorem snd_cmp {d:Nat} {op:Cop} {x y:PV} {b:Bool} {l r:Expr} {ev₁ ev₂:Ev} (hA:AOk A d) (S:Stat penv G R N) (hb:cmpop op x y = some b)
  (L2:Le ev₁ ev₂) (h1:SndE w A penv R Z O s (eval l penv) x ev₁) (h2:∀ s₁,Inv w penv R Z O ev₁ s₁.heap s₁.toks → SndE w A penv R Z O s₁ (eval r penv) y ev₂) {Q:Value → Shared → Prop} {E:Value → Shared → Prop}
  (hQ:∀ s',Ext penv.locals s s' → s.heap.objs.size ≤ s'.heap.objs.size → Inv w penv R Z O ev₂ s'.heap s'.toks → Q (.bool b) s') :
  wpAny (model pw w) A (eval l penv) (fun a s₁ => wpAny (model pw w) A (eval r penv) (fun b s₂ => wpAny (model pw w) A (compareOp (coOf op) a b) Q E s₂) E s₁) E s:=by
 refine h1.mono fun s₁ v X1 z1 I1 r1 => (h2 s₁ I1).mono fun s₂ u X2 z2 I2 r2 => ?_
 refine SndE.of_givesB S I2 (snd_cmpop (by have:=hA.un;lia) I2.base hb (r1.go X2 L2) r2) Q E fun s₃ v' X3 z3 I3 r3 => ?_
 cases r3
 exact hQ s₃ ((X1.trans X2).trans X3) (Nat.le_trans z1 (Nat.le_trans z2 z3)) I3
theorem notSlice_ne {sl:Expr} (h:notSlice sl = true):∀ a b c d,sl ≠ .Slice a b c d:=fun a b c d e => by rw [e] at h;exact (fT h).elim
theorem snd_item {x y:PV} {value slice:Expr} {pos:Pos} {ev₁ ev₂:Ev} (S:Stat penv G R N) (hns:notSlice slice = true) (hb:idxop x y = some p) (L2:Le ev₁ ev₂) (h1:SndE w A penv R Z O s (eval value penv) x ev₁)
  (h2:∀ s₁,Inv w penv R Z O ev₁ s₁.heap s₁.toks → SndE w A penv R Z O s₁ (eval slice penv) y ev₂):SndE w A penv R Z O s (eval (.Subscript value slice pos) penv) p ev₂:=by
 intro Q E hQ
 refine Subscript_ (h1.mono fun s₁ v X1 z1 I1 r1 => (h2 s₁ I1).mono fun s₂ u X2 z2 I2 r2 => ?_)
 refine SndE.of_gives S I2 (snd_idx I2.base (notSlice_ne hns) hb (r1.go X2 L2).cont r2) Q E fun s₃ v' X3 z3 I3 r3 => ?_
 exact hQ s₃ v' ((X1.trans X2).trans X3) (Nat.le_trans z1 (Nat.le_trans z2 z3)) I3 r3
theorem snd_itemv {i:Nat} {n:PySem.Str} {t:Slot} {y:PV} {slice:Expr} {px pos:Pos} {ev₂:Ev} (S:Stat penv G R N) (I:Inv w penv R Z O ev s.heap s.toks) (hR:R.lookup n = some i) (hg:getS ev i = some t) (hns:notSlice slice = true)
  (hb:idxop (froz t) y = some p) (L2:Le ev ev₂) (h2:SndE w A penv R Z O s (eval slice penv) y ev₂):SndE w A penv R Z O s (eval (.Subscript (.Name n px) slice pos) penv) p ev₂:=by
 intro Q E hQ
 refine Subscript_ (load_slot S I hR hg fun v c hne _ => h2.mono fun s₂ u X2 z2 I2 r2 => ?_)
 refine SndE.of_gives S I2 (snd_idx I2.base (notSlice_ne hns) hb (c.go hne X2 L2) r2) Q E fun s₃ v' X3 z3 I3 r3 => ?_
 exact hQ s₃ v' (X2.trans X3) (Nat.le_trans z2 z3) I3 r3
theorem backTo_cons {x:Expr} {xs:List Expr} {env:Env} {pos:Pos} (h:notStar x = true):backTo pos (starEach (x :: xs) env) = (false,eval x env) :: backTo pos (starEach xs env):=by rw [starEach_cons h];rfl
theorem snd_new {vs:List Value} {ps:List PV} {o:Obj} (hof:o.isFreed = false) (S:Stat penv G R N) (I:Inv w penv R Z O ev s.heap s.toks)
  (hm:∀ h':Heap,h'.get? s.heap.objs.size = some o → ¬ XS Z penv O ev s.heap.objs.size → Reps w h' (XS Z penv O ev) s.toks vs ps → Rep w h' (XS Z penv O ev) s.toks (.ref s.heap.objs.size) p)
  (hr:Reps w s.heap (XS Z penv O ev) s.toks vs ps) :
  Ext penv.locals s { s with heap:=s.heap.push o } ∧ s.heap.objs.size ≤ (s.heap.push o).objs.size ∧ Inv w penv R Z O ev (s.heap.push o) s.toks ∧ Rep w (s.heap.push o) (XS Z penv O ev) s.toks (.ref s.heap.objs.size) p:=by
 have X:=Ext.pushS penv.locals s o
 refine ⟨X,push_le,I.ext S X push_le,hm _ (Heap.get?_push_size _ hof) (fun z => absurd (I.lx _ z) (Nat.lt_irrefl _)) ?_⟩
 exact hr.ext X
theorem snd_tuple {es:List Expr} {kk:Nat} {pos:Pos} {ps:List PV} (hlen:ps.length < 1000) (S:Stat penv G R N) (h:SndL w A penv R Z O s (spliced (backTo pos (starEach es penv))) ps ev') :
  SndE w A penv R Z O s (eval (.Tuple es kk pos) penv) (.tup ps) ev':=by
 intro Q E hQ
 refine wpAny_Tuple (h _ _ fun s₁ vs X1 z1 I1 r1 => ⟨?_,?_⟩)
 ·have:=r1.length;rw [show sizeLine = 16777216 from rfl];lia
 ·obtain ⟨X,z,I2,r⟩:=snd_new (o:={ cls:=.type "tuple",data:=.seq vs.toArray }) (p:=.tup ps) rfl S I1 (fun h' e nx r => .tup ⟨_,e,rfl,_,rfl⟩ nx r) r1
  exact hQ _ _ (X1.trans X) (Nat.le_trans z1 z) I2 r
theorem snd_list {es:List Expr} {pos:Pos} {ps:List PV} (hlen:ps.length < 1000) (S:Stat penv G R N) (h:SndL w A penv R Z O s (spliced (backTo pos (starEach es penv))) ps ev') :
  SndE w A penv R Z O s (eval (.List es pos) penv) (.list ps) ev':=by
 intro Q E hQ
 refine wpAny_List (h _ _ fun s₁ vs X1 z1 I1 r1 => ⟨?_,?_⟩)
 ·have:=r1.length;rw [show sizeLine = 16777216 from rfl];lia
 ·obtain ⟨X,z,I2,r⟩:=snd_new (o:={ cls:=.type "list",data:=.seq vs.toArray }) (p:=.list ps) rfl S I1 (fun h' e nx r => .list ⟨_,e,rfl,_,rfl⟩ nx r) r1
  exact hQ _ _ (X1.trans X) (Nat.le_trans z1 z) I2 r
theorem sndL_nil (I:Inv w penv R Z O ev s.heap s.toks):SndL w A penv R Z O s (spliced []) [] ev:=fun Q E hQ => Calls.spliced_nil (hQ s _ (Ext.refl _ _) (Nat.le_refl _) I .nil)
theorem sndL_cons {x:Expr} {rest:List (Bool × Sem Value)} {ps:List PV} {ev₁ ev₂:Ev} (L2:Le ev₁ ev₂) (h1:SndE w A penv R Z O s (eval x penv) p ev₁)
  (h2:∀ s₁,Inv w penv R Z O ev₁ s₁.heap s₁.toks → SndL w A penv R Z O s₁ (spliced rest) ps ev₂):SndL w A penv R Z O s (spliced ((false,eval x penv) :: rest)) (p :: ps) ev₂:=by
 intro Q E hQ
 refine Calls.spliced_cons (h1.mono fun s₁ v X1 z1 I1 r1 => h2 s₁ I1 _ _ fun s₂ vs X2 z2 I2 r2 => ?_)
 exact hQ s₂ _ (X1.trans X2) (Nat.le_trans z1 z2) I2 (.cons (r1.go X2 L2) r2)
end
end
section
theorem fn_dbg {f:Nat} (h:f < 18):(fnm f == ("__debug__" : PySem.Str)) = false:=by
 have:(List.range 18).all (fun f => !(fnm f == ("__debug__" : PySem.Str))) = true:=by decide
 simpa using List.all_eq_true.mp this f (List.mem_range.mpr h)
section
variable {w:World} {A:Around} {penv:Env} {G:List PySem.Str} {R:List (PySem.Str × Nat)} {N:Nat} {Z:Addr → Prop} {O:Nat → Addr} {ev ev':Ev} {s:Shared} {p:PV} {C:Calls} {d:Nat}
theorem args_vals {h:Heap} {X:Addr → Prop} {n:Nat} {ps:List PV}:∀ {vs:List Value},Reps w h X n vs ps → ArgsRep w h X n vs (ps.map .val) noA:=by
 induction ps with
 | nil => intro vs r;obtain rfl:=r.nilE;exact .nil
 | cons p ps ih =>
  intro vs r
  obtain ⟨v,us,rfl,a,b⟩:=r.consE
  exact .val (a.mono (fun _ _ _ e => e) (fun _ q => .inl (q.elim id fun q => q.elim)) (Nat.le_refl _)) (ih b)
theorem args_snoc {h:Heap} {X:Addr → Prop} {n:Nat} {D:Addr} {l:List (Int × PV)} (r:SlotRep w h (fun b => X b ∨ b = D) n D (.ref D) (.ownD l)) (hx:¬ X D) (lo:188 ≤ D) {ps:List PV} :
  ∀ {vs:List Value},Reps w h (fun b => X b ∨ b = D) n vs ps → ArgsRep w h X n (vs ++ [.ref D]) (ps.map .val ++ [.ownD l]) (· = D):=by
 induction ps with
 | nil => intro vs r';obtain rfl:=r'.nilE;exact .own r hx lo
 | cons p ps ih =>
  intro vs r'
  obtain ⟨v,us,rfl,a,b⟩:=r'.consE
  exact .val a (ih b)
theorem xs_un {D:Addr}:∀ b,(XS Z penv O ev b ∨ b = D) → XS (fun a => Z a ∨ a = D) penv O ev b:=by
 rintro b (q | rfl)
 ·rcases q with q | q | q
  ·exact .inl q
  ·exact .inr (.inl (.inl q))
  ·exact .inr (.inr q)
 ·exact .inr (.inl (.inr rfl))
theorem xs_low:∀ a,Low a → XS Z penv O ev a:=fun _ h => .inl h
theorem snd_call {f:Nat} {y:PySem.Str} {px pos:Pos} {a:Expr} {as:List Expr} {ps:List PV} (hC:CallsOk w C d) (hA:AOk A d) (S:Stat penv G R N) (I:Inv w penv R Z O ev s.heap s.toks) (h0:0 < f) (h18:f < 18) (hy:y = fnm f) (hG:y ∈ G)
  (hst:notStar a = true) (h:SndL w A penv R Z O s (spliced (backTo pos (starEach (a :: as) penv))) ps ev') (hc:C f (ps.map .val) = some p) :
  SndE w A penv R Z O s (eval (.Call (.Name y px) (a :: as) [] pos) penv) p ev':=by
 intro Q E hQ
 subst hy
 obtain ⟨o,pm,cd,doc,eo,ho,_⟩:=fn_obj I.base h18
 refine wpAny_Call_NameR (load_glob S I.base hG (fn_glob w.params h18) ?_ (fn_dbg h18))
 refine callWith_def ho (h _ _ fun s₁ vs X1 z1 I1 r1 => ⟨?_,?_⟩) (starEach_cons hst)
 ·exact X1.heap _ o (fun e => absurd (fA_lt h18) (Nat.not_lt.mpr (e ▸ S.lo))) eo
 ·refine wpAny_grow (hC f _ p hc h0 h18 A (XS Z penv O ev') noA s₁ vs _ _ hA I1.base I1.pos I1.lx xs_low (args_vals r1) fun s' v c r z _ => ?_)
  have X2:Ext penv.locals s₁ s':=c.ext
  exact hQ s' v (X1.trans X2) (Nat.le_trans z1 z) (I1.ext S X2 z) r
noncomputable def SndD (w:World) (A:Around) (penv:Env) (R:List (PySem.Str × Nat)) (Z:Addr → Prop) (O:Nat → Addr) (s:Shared) (t:Sem Value) (l:List (Int × PV)) (ev':Ev):Prop :=
 ∀ (Q:Value → Shared → Prop) (E:Value → Shared → Prop),(∀ s' D,Ext penv.locals s s' → s.heap.objs.size ≤ s'.heap.objs.size → Inv w penv R (fun a => Z a ∨ a = D) O ev' s'.heap s'.toks → s.heap.objs.size ≤ D → D < s'.heap.objs.size → ¬ XS Z penv O ev' D →
  SlotRep w s'.heap (XS (fun a => Z a ∨ a = D) penv O ev') s'.toks D (.ref D) (.ownD l) → Q (.ref D) s') → wpAny (model pw w) A t Q E s
noncomputable def SndP (w:World) (A:Around) (penv:Env) (R:List (PySem.Str × Nat)) (Z:Addr → Prop) (O:Nat → Addr) (s:Shared) (t:Sem (List (Value × Value))) (l:List (Int × PV)) (ev':Ev):Prop :=
 ∀ (Q:List (Value × Value) → Shared → Prop) (E:Value → Shared → Prop),(∀ s' vs kvs,Ext penv.locals s s' → s.heap.objs.size ≤ s'.heap.objs.size → Inv w penv R Z O ev' s'.heap s'.toks → Carries (intKind pw w) vs kvs → kvs.map (·.1) = l.map (·.1) →
  Reps w s'.heap (XS Z penv O ev') s'.toks (kvs.map (·.2)) (l.map (·.2)) → Q vs s') → wpAny (model pw w) A t Q E s
theorem merged_self:∀ (kvs acc:List (Int × Value)),(∀ q ∈ kvs,∀ r ∈ acc,q.1 ≠ r.1) → (kvs.map (·.1)).Nodup → merged acc kvs = acc ++ kvs
 | [],acc,_,_ => by simp [merged]
 | (i,v) :: r,acc,h,hn => by
  have h1:stored acc i v = acc ++ [(i,v)]:=by
   unfold stored
   rw [if_neg]
   simp only [List.any_eq_true,decide_eq_true_eq,not_exists,not_and]
   exact fun q hq e => h (i,v) (.head _) q hq e.symm
  show merged (stored acc i v) r = _
  rw [h1]
  rw [List.map_cons,List.nodup_cons] at hn
  rw [merged_self r (acc ++ [(i,v)]) (fun q hq q' hq' => ?_) hn.2]
  ·simp
  ·rcases List.mem_append.mp hq' with e | e
   ·exact h q (.tail _ hq) q' e
   ·rw [List.mem_singleton] at e;subst e
    intro e2
    exact hn.1 (e2 ▸ List.mem_map_of_mem hq)
theorem sysMod_ne {D:Addr} (h:188 ≤ D):(D == sysModules) = false:=by
 rw [beq_eq_false_iff_ne];rintro rfl;exact absurd h (by decide)
theorem Inv.hold (I:Inv w penv R Z O ev s.heap s.toks) (o:Obj):Inv w penv R (fun a => Z a ∨ a = s.heap.objs.size) O ev (s.heap.push o) s.toks:=by
 have keep:∀ b o',s.heap.get? b = some o' → (s.heap.push o).get? b = some o':=fun b o' e => Heap.get?_push_of_some _ e
 refine I.chg (fun b o' _ e => keep b o' e) (fun _ _ _ _ o' e => keep _ o' e) (fun b o' _ e => keep b o' e) (fun m q => q.push _) (fun x c v _ q => isCell_at q fun o' e => keep _ o' e) (fun b hb => ?_) (fun b hb => ?_) (Nat.le_refl _)
 ·rcases hb with hb | rfl
  ·exact .inl hb
  ·exact .inr (fresh_none _)
 ·rcases hb with hb | rfl
  ·exact lt_push (I.zex b hb)
  ·rw [Heap.size_push];exact Nat.lt_succ_self _
theorem Inv.heldC {D:Addr} {s':Shared} (I:Inv w penv R (fun a => Z a ∨ a = D) O ev s.heap s.toks) (hD:188 ≤ D) (hDL:D ≠ penv.locals) (hDc:∀ x,penv.cells.lookup x ≠ some D) (hk:∀ b o',b ≠ D → s.heap.get? b = some o' → s'.heap.get? b = some o') (hz:s.heap.objs.size ≤ s'.heap.objs.size) (ht:s.toks ≤ s'.toks) :
  Inv w penv R (fun a => Z a ∨ a = D) O ev s'.heap s'.toks :=
 I.chg (fun b o' hb e => hk b o' (fun q => hb (xs_z (.inr q))) e) (fun i t hg ho o' e => hk _ o' (fun q => (I.ne i t hg ho).2.2.2.2 (.inr q)) e) (fun b o' hb e => hk b o' (fun q => absurd hb (Nat.not_lt.mpr (q ▸ hD))) e)
  (fun m ⟨o,es,ep,e,r⟩ => ⟨o,es,ep,hk _ _ hDL.symm e,r⟩) (fun x c v hc q => isCell_at q fun o' e => hk _ o' (fun z => hDc x (z ▸ hc)) e) (fun b hb => .inl hb) (fun b hb => Nat.lt_of_lt_of_le (I.zex b hb) hz) ht
theorem Inv.less {Z':Addr → Prop} (I:Inv w penv R Z' O ev s.heap s.toks) (h:∀ b,Z b → Z' b):Inv w penv R Z O ev s.heap s.toks :=
 I.chg (fun _ _ _ e => e) (fun _ _ _ _ _ e => e) (fun _ _ _ e => e) (fun _ q => q) (fun _ _ _ _ q => q) (fun b hb => .inl (h b hb)) (fun b hb => I.zex b (h b hb)) (Nat.le_refl _)
theorem xs_hold {D:Addr}:∀ b,XS Z penv O ev b → XS (fun a => Z a ∨ a = D) penv O ev b:=by
 rintro b (q | q | q | q | q)
 ·exact .inl q
 ·exact xs_z (.inl q)
 ·exact .inr (.inr (.inl q))
 ·exact .inr (.inr (.inr (.inl q)))
 ·exact .inr (.inr (.inr (.inr q)))
theorem fresh_xs (S:Stat penv G R N) (I:Inv w penv R Z O ev s.heap s.toks) (L2:Le ev ev') {D:Addr} (hD:s.heap.objs.size ≤ D):¬ XS Z penv O ev' D:=fun q => absurd (I.lx D (xs_le L2 D q)) (Nat.not_lt.mpr hD)
theorem snd_dict {ks:List (Option Expr)} {vs:List Expr} {pos:Pos} {l:List (Int × PV)} (S:Stat penv G R N) (I:Inv w penv R Z O ev s.heap s.toks) (L2:Le ev ev') (hall:ks.all (·.isSome) = true) (hl:ks.length = vs.length) (h0:ks ≠ []) (hlen:ks.length ≤ 15)
  (hnd:(l.map (·.1)).Nodup) (h:∀ s₁ Z₁,Inv w penv R Z₁ O ev s₁.heap s₁.toks → SndP w A penv R Z₁ O s₁ (evalPairs (pairTrees ks vs penv pos)) l ev'):SndD w A penv R Z O s (eval (.Dict ks vs pos) penv) l ev':=by
 intro Q E hQ
 refine wpAny_Dict_walk (knd:=intKind pw w) hall hl h0 hlen ?_
 have I0:=I.hold { cls:=.type "dict",data:=.dict #[] }
 have hDL:s.heap.objs.size ≠ penv.locals:=by obtain ⟨m,hm⟩:=I.ns;exact Nat.ne_of_gt hm.lt
 have hDx:=fresh_xs S I L2 (Nat.le_refl s.heap.objs.size)
 have hD8:188 ≤ s.heap.objs.size:=kf_size I.base
 have X0:=Ext.pushS penv.locals s { cls:=.type "dict",data:=.dict #[] }
 refine h { s with heap:=s.heap.push { cls:=.type "dict",data:=.dict #[] } } _ I0 _ _ fun s₁ vs' kvs X1 z1 I1 hc hk hr => ⟨kvs,hc,?_,fun h' hd hsb => ?_⟩
 ·refine ⟨_,#[],0,X1.heap _ _ hDL (Heap.get?_push_size _ rfl),⟨rfl,rfl,rfl⟩,rfl,?_,.nil,by simp⟩
  intro e he;simp at he
 ·rw [merged_self kvs [] (by simp) (by rw [hk];exact hnd),List.nil_append] at hd
  obtain ⟨o,es,ep,q1,q2⟩:=hd
  have hlt:s.heap.objs.size < s₁.heap.objs.size:=Nat.lt_of_lt_of_le (by show _ < (s.heap.push _).objs.size;rw [Heap.size_push];exact Nat.lt_succ_self _) z1
  have I2:=I1.heldC (s':={ s₁ with heap:=h',toks:=s₁.toks + vs'.length }) hD8 hDL (fun x q => hDx (xs_cell q)) (fun b o' hb e => hsb.extBut b o' hb e) (Nat.le_of_eq hsb.1.symm) (Nat.le_add_right _ _)
  have X2:Ext penv.locals s { s₁ with heap:=h',toks:=s₁.toks + vs'.length }:=by
   have X01:=X0.trans X1
   refine ⟨fun b ob hb e => hsb.extBut b ob (fresh_push e) (X01.heap b ob hb e),fun m q => (X01.ns m q).sameBut hsb hDL.symm,X01.gens,X01.fin,X01.os,Nat.le_trans X01.tk (Nat.le_add_right _ _)⟩
  refine hQ _ _ X2 (by show _ ≤ h'.objs.size;rw [hsb.1];exact Nat.le_of_lt hlt) I2 (Nat.le_refl _) (by show _ < h'.objs.size;rw [hsb.1];exact hlt) hDx ⟨rfl,kvs,ep,⟨o,es,q1,q2⟩,sysMod_ne hD8,hk,?_⟩
  exact Reps.mono (fun b ob hb e => hsb.extBut b ob (fun q => hb (xs_z (.inr q))) e) (fun b hb => .inl hb) (Nat.le_add_right _ _) hr
theorem sndP_nil {pos:Pos} (I:Inv w penv R Z O ev s.heap s.toks):SndP w A penv R Z O s (evalPairs (pairTrees [] [] penv pos)) [] ev:=fun Q E hQ =>
 pairTrees_nil_walk (hQ s [] [] (Ext.refl _ _) (Nat.le_refl _) I trivial rfl .nil)
theorem sndP_cons {a b:Expr} {ks:List (Option Expr)} {vs:List Expr} {pos:Pos} {i:Int} {l:List (Int × PV)} {ev₁ ev₂ ev₃:Ev} (L2:Le ev₁ ev₂) (L3:Le ev₂ ev₃) (h1:SndE w A penv R Z O s (eval a penv) (.int i) ev₁)
  (h2:∀ s₁,Inv w penv R Z O ev₁ s₁.heap s₁.toks → SndE w A penv R Z O s₁ (eval b penv) p ev₂) (h3:∀ s₁,Inv w penv R Z O ev₂ s₁.heap s₁.toks → SndP w A penv R Z O s₁ (evalPairs (pairTrees ks vs penv pos)) l ev₃) :
  SndP w A penv R Z O s (evalPairs (pairTrees (some a :: ks) (b :: vs) penv pos)) ((i,p) :: l) ev₃:=by
 intro Q E hQ
 refine pairTrees_cons_walk (h1.mono fun s₁ v X1 z1 I1 r1 => (h2 s₁ I1).mono fun s₂ u X2 z2 I2 r2 => h3 s₂ I2 _ _ fun s₃ vs' kvs X3 z3 I3 hc hk hr => ?_)
 cases r1 with | int _ t =>
 exact hQ s₃ _ ((i,u) :: kvs) ((X1.trans X2).trans X3) (Nat.le_trans z1 (Nat.le_trans z2 z3)) I3 ⟨intKind_is pw w i t,rfl,hc⟩ (by simp [hk]) (.cons (r2.go X3 L3) hr)
theorem snd_callD {f:Nat} {y:PySem.Str} {px pos dp:Pos} {a:Expr} {ks:List (Option Expr)} {vs:List Expr} {q:PV} {l:List (Int × PV)} {ev₁ ev₂:Ev} (hC:CallsOk w C d) (hA:AOk A d) (S:Stat penv G R N) (I:Inv w penv R Z O ev s.heap s.toks) (L2:Le ev₁ ev₂)
  (h0:0 < f) (h18:f < 18) (hy:y = fnm f) (hG:y ∈ G) (hst:notStar a = true) (h1:SndE w A penv R Z O s (eval a penv) q ev₁) (h2:∀ s₁,Inv w penv R Z O ev₁ s₁.heap s₁.toks → SndD w A penv R Z O s₁ (eval (.Dict ks vs dp) penv) l ev₂)
  (hc:C f ([q].map .val ++ [.ownD l]) = some p):SndE w A penv R Z O s (eval (.Call (.Name y px) [a,.Dict ks vs dp] [] pos) penv) p ev₂:=by
 intro Q E hQ
 subst hy
 obtain ⟨o,pm,cd,doc,eo,ho,_⟩:=fn_obj I.base h18
 refine wpAny_Call_NameR (load_glob S I.base hG (fn_glob w.params h18) ?_ (fn_dbg h18))
 refine callWith_def ho ?_ (starEach_cons hst)
 rw [backTo_cons hst,backTo_cons rfl]
 refine Calls.spliced_cons (h1.mono fun s₁ v X1 z1 I1 r1 => Calls.spliced_cons (h2 s₁ I1 _ _ fun s₂ D X2 z2 I2 hD1 hD2 hDx rD => Calls.spliced_nil ⟨?_,?_⟩))
 ·exact (X1.trans X2).heap _ o (fun e => absurd (fA_lt h18) (Nat.not_lt.mpr (e ▸ S.lo))) eo
 ·have hlo:188 ≤ D:=Nat.le_trans (kf_size I1.base) hD1
  have rD:=rD.chg (Y:=fun b => XS Z penv O ev₂ b ∨ b = D) (fun _ _ _ e => e) (fun b hb => .inl (xs_un b hb)) (Nat.le_refl _) (fun _ _ e => e)
  have r1':Rep w s₂.heap (fun b => XS Z penv O ev₂ b ∨ b = D) s₂.toks v q:=r1.mono (fun b ob hb e => X2.heap b ob (fun q => hb (q ▸ xs_loc)) e) (fun b hb => hb.elim (fun q => .inl (xs_le L2 b q)) fun q => .inr (Heap.get?_none_of_le (q ▸ hD1))) X2.tk
  refine wpAny_grow (hC f _ p hc h0 h18 A (XS Z penv O ev₂) (· = D) s₂ _ _ _ hA I2.base I2.pos (fun b hb => I2.lx b (xs_hold b hb)) xs_low (args_snoc rD hDx hlo (.cons r1' .nil)) fun s' v' c r z _ => ?_)
  have I3:=(I2.heldC hlo (fun q => hDx (q ▸ xs_loc)) (fun x q => hDx (xs_cell q)) (fun b o' hb e => c.heap b o' hb e) z c.tk).less (Z:=Z) fun _ => .inl
  have X12:=X1.trans X2
  refine hQ s' v' ⟨fun b ob hb e => c.heap b ob (fun q => ?_) (X12.heap b ob hb e),fun m q => ?_,fun i y q => c.gens i y id (X12.gens i y q),fun i y q => (c.fin i y q).elim (X12.fin i y) .inr,c.os.trans X12.os,Nat.le_trans X12.tk c.tk⟩ (Nat.le_trans z1 (Nat.le_trans z2 z)) I3 r
  ·exact absurd (Heap.lt_size e) (Nat.not_lt.mpr (q ▸ Nat.le_trans z1 hD1))
  ·obtain ⟨o,es,ep,e,r⟩:=X12.ns m q
   exact ⟨o,es,ep,c.heap _ _ (fun q => hDx (q ▸ xs_loc)) e,r⟩
end
end
section
theorem bi_mem {f:Bi} (h:[Bi.len,.chr,.ord,.int,.sum,.max3,.min3,.isStr].contains f = true):(biN f,biV f) ∈ biL ∧ (biN f == ("__debug__" : PySem.Str)) = false :=
 ⟨List.mem_append_left _ (List.mem_map.mpr ⟨f,List.contains_iff_mem.mp h,rfl⟩),by cases f <;> decide⟩
noncomputable def biId:Bi → String
 | .len => "len" | .chr => "chr" | .ord => "ord" | .sum => "sum" | .max3 => "max" | .min3 => "min" | _ => "isinstance"
theorem biV_eq {f:Bi} (h:f ≠ .int):biV f = .builtin (biId f):=by cases f <;> first | rfl | exact absurd rfl h
section
variable {w:World} {A:Around} {penv:Env} {G:List PySem.Str} {R:List (PySem.Str × Nat)} {N:Nat} {Z:Addr → Prop} {O:Nat → Addr} {ev ev':Ev} {s:Shared} {p:PV} {C:Calls} {d:Nat}
theorem base_attr {y:PySem.Str} {px:Pos} {name:PySem.Str}:attributeBase (.Name y px) name penv (eval (.Name y px) penv) = eval (.Name y px) penv:=rfl
theorem star_plain {pos:Pos} {env:Env}:∀ (as:List Expr),(∀ x ∈ as,notStar x = true) → (backTo pos (starEach as env)).any (·.1) = false
 | [],_ => rfl
 | x :: r,h => by
  rw [backTo_cons (h x (.head _)),List.any_cons,star_plain r fun y hy => h y (.tail _ hy)];rfl
theorem snd_bip {f:Bi} {px pos:Pos} {a:Expr} {as:List Expr} {ps:List PV} (hA:AOk A d) (S:Stat penv G R N) (I:Inv w penv R Z O ev s.heap s.toks) (hf:[Bi.len,.chr,.ord,.int,.sum,.max3,.min3].contains f = true) (hG:biN f ∈ G)
  (hst:notStar a = true) (hpl:∀ x ∈ as,notStar x = true) (h:SndL w A penv R Z O s (spliced (backTo pos (starEach (a :: as) penv))) ps ev') (hb:biop f ps = some p):SndE w A penv R Z O s (eval (.Call (.Name (biN f) px) (a :: as) [] pos) penv) p ev':=by
 intro Q E hQ
 have hf8:[Bi.len,.chr,.ord,.int,.sum,.max3,.min3,.isStr].contains f = true:=by cases f <;> first | rfl | (exfalso;revert hf;decide)
 obtain ⟨m1,m2⟩:=bi_mem hf8
 refine wpAny_Call_NameR (load_bi S I.base hG m1 ?_ m2)
 have fin:∀ s₁ vs,Ext penv.locals s s₁ → s.heap.objs.size ≤ s₁.heap.objs.size → Inv w penv R Z O ev' s₁.heap s₁.toks → Reps w s₁.heap (XS Z penv O ev') s₁.toks vs ps → wpAny (model pw w) A (call (biV f) vs) Q E s₁:=by
  intro s₁ vs X1 z1 I1 r1
  refine SndE.of_gives S I1 (snd_bi hA.hd I1.pos (by cases f <;> first | (exfalso;revert hf;decide) | exact ⟨nofun,nofun,nofun,nofun⟩) hb r1) Q E fun s₂ v X2 z2 I2 r2 => hQ s₂ v (X1.trans X2) (Nat.le_trans z1 z2) I2 r2
 by_cases hi:f = .int
 ·subst hi
  exact callWith_type1 (h _ _ fin) (starEach_cons hst) (star_plain as hpl)
 ·have e:biV f = .builtin (biId f):=biV_eq hi
  rw [e] at fin ⊢
  exact callWith_builtin1 (h _ _ fin) (starEach_cons hst) (star_plain as hpl)
theorem bi_isStr {q p:PV} (h:biop .isStr [q] = some p):(∃ l,q = .str l ∧ p = .bool true) ∨ ∃ l,q = .tup l ∧ p = .bool false:=by
 cases q <;> cases h
 ·exact .inl ⟨_,rfl,rfl⟩
 ·exact .inr ⟨_,rfl,rfl⟩
theorem snd_isStr {px pn pos:Pos} {a:Expr} {q:PV} (S:Stat penv G R N) (I:Inv w penv R Z O ev s.heap s.toks) (hG:biN .isStr ∈ G) (hG2:strN ∈ G) (hst:notStar a = true) (h:SndE w A penv R Z O s (eval a penv) q ev') (hb:biop .isStr [q] = some p) :
  SndE w A penv R Z O s (eval (.Call (.Name (biN .isStr) px) [a,.Name strN pn] [] pos) penv) p ev':=by
 intro Q E hQ
 obtain ⟨m1,m2⟩:=bi_mem (f:=.isStr) (by decide)
 refine wpAny_Call_NameR (load_bi S I.base hG m1 ?_ m2)
 refine callWith_builtin1 ?_ (starEach_cons hst)
 rw [backTo_cons hst,backTo_cons rfl]
 refine Calls.spliced_cons (h.mono fun s₁ v X1 z1 I1 r1 => Calls.spliced_cons (load_bi S I1.base hG2 (v:=.type "str") biL_str (Calls.spliced_nil ?_) (by decide)))
 rcases bi_isStr hb with ⟨l,rfl,rfl⟩ | ⟨l,rfl,rfl⟩
 ·obtain ⟨t,rfl⟩:=r1.strE
  exact IsiPair.str_str (hQ s₁ _ X1 z1 I1 (.bool true))
 ·obtain ⟨a,vs,rfl,⟨o,e,c,_⟩,_⟩:=r1.tupE
  have T:=Ext.toks penv.locals s₁ (s₁.toks + 1) (Nat.le_succ _)
  exact IsiPair.tuple_str e c (hQ _ _ (X1.trans T) z1 (I1.ext S T (Nat.le_refl _)) (.bool false))
end
end
section
section
variable {w:World} {A:Around} {penv:Env} {G:List PySem.Str} {R:List (PySem.Str × Nat)} {N:Nat} {Z:Addr → Prop} {O:Nat → Addr} {ev ev':Ev} {s:Shared} {p:PV} {C:Calls} {d:Nat}
theorem joinOk_of {ys:List (List Nat)} (h:lim ys.flatten.length = true):JoinOk (k []) (ys.map k) = true:=by
 have hf:∀ (l:List (List Nat)) (n:Nat),(l.map k).foldl (fun a y => a + y.length + (k []).length) n = n + l.flatten.length:=by
  intro l
  induction l with
  | nil => intro n;simp
  | cons y r ih => intro n;rw [List.map_cons,List.foldl_cons,ih,k_length,k_length];simp;lia
 unfold JoinOk
 have:(ys.map k).toArray.foldl (fun (a:Nat) (y:PySem.Str) => a + y.length + (k []).length) 0 = 0 + ys.flatten.length:=by
  rw [← hf ys 0,List.foldl_toArray]
 rw [this]
 have h2:=lim_iff.mp h
 rw [Nat.zero_add]
 unfold Builtin.Str.tooLong
 rw [decide_eq_false (by rw [show sizeLine = 16777216 from rfl];lia)];rfl
theorem bi_join {q p:PV} (h:biop .join [q] = some p):∃ l x,q = .list l ∧ joinS l = some x ∧ lim x.length = true ∧ p = .str x:=by
 cases q <;> first | exact (nn h).elim | skip
 obtain ⟨z,hz,h⟩:=Option.bind_eq_some_iff.mp h
 obtain ⟨q,rfl⟩:=if_some h
 exact ⟨_,z,rfl,hz,(and_2 q).2,rfl⟩
theorem bi_lower {q p:PV} (h:biop .lower [q] = some p):∃ c,q = .str [c] ∧ c < 128 ∧ p = .str [lowC c]:=by
 cases q <;> first | exact (nn h).elim | skip
 rename_i l
 cases l with
 | nil => exact (nS h).elim
 | cons c r =>
  cases r with
  | nil => obtain ⟨q,rfl⟩:=if_some h;exact ⟨c,rfl,Nat.le_of_ble_eq_true q,rfl⟩
  | cons => exact (nS h).elim
theorem bi_get1 {q p:PV} (h:biop .get1 [q] = some p):∃ i,q = .int i ∧ p = match lookB i b3L with | some x => .str x | none => .none:=by
 cases q <;> cases h
 exact ⟨_,rfl,rfl⟩
theorem low_k {c:Nat} (hc:c < 128):Txt.lower (k [c]) = k [lowC c]:=by
 have h1:Txt.lower (k [c]) = ⟨(Unicode.lowerAt #[c] 0).toArray⟩:=by delta Txt.lower;simp [placed]
 rw [h1]
 have h2:Unicode.lowerAt #[c] 0 = Unicode.lowerOf c:=by
  unfold Unicode.lowerAt
  simp
  intro h3;lia
 rw [h2,low_of c hc]
theorem snd_join {a:Expr} {cp ap pos:Pos} {k0:Nat} {x:PySem.Str} {q:PV} (S:Stat penv G R N) (I:Inv w penv R Z O ev s.heap s.toks) (hx:x = k []) (hline:(ap.endLine == pos.line) = true) (hst:notStar a = true)
  (h:∀ s₁,Inv w penv R Z O ev s₁.heap s₁.toks → SndE w A penv R Z O s₁ (eval a penv) q ev') (hb:biop .join [q] = some p):SndE w A penv R Z O s (eval (.Call (.Attribute (.Constant (.str x) k0 cp) ("join" : PySem.Str) ap) [a] [] pos) penv) p ev':=by
 intro Q E hQ
 subst hx
 refine wpAny_Call_method1_late rfl hline (by rw [backTo_cons hst];rfl) (wpAny_Constant_str ⟨"str","str.join",F.plainAttrs_str,F.slot_str_join,F.type_str_join,typeIs_str _ _ _,nofun,?_⟩)
 have T:=Ext.toks penv.locals s (s.toks + 1) (Nat.le_succ _)
 refine Calls.callWith_builtin rfl (Calls.evalArgs_plain (Calls.spliced_cons ((h _ (toks1 I S)).mono fun s₁ v X1 z1 I1 r1 => Calls.spliced_nil ?_)))
 obtain ⟨l,z,rfl,hz,hl,rfl⟩:=bi_join hb
 obtain ⟨c,vs,rfl,ha,hx,hr⟩:=r1.listE
 obtain ⟨xs,rfl,ys,h1,rfl⟩:=strs_join hr hz
 refine wpAny_grow (SC.join (texts:=ys.map k) ha h1 (joinOk_of hl) fun t' tk hz2 ht2 => ?_)
 have X2:=Ext.toks penv.locals s₁ tk ht2
 have e:Txt.join (k []) (ys.map k) = k ys.flatten:=by
  show Builtin.Str.glued _ _ = _
  rw [StrLaws.glued_eq_join,join_flat]
 rw [e]
 exact hQ _ _ ((T.trans X1).trans X2) z1 (I1.ext S X2 (Nat.le_refl _)) (.str _ _)
theorem snd_lower {q:PV} {y:PySem.Str} {px ap pos:Pos} (S:Stat penv G R N) (hline:(ap.endLine == pos.line) = true) (h:SndE w A penv R Z O s (eval (.Name y px) penv) q ev') (hb:biop .lower [q] = some p) :
  SndE w A penv R Z O s (eval (.Call (.Attribute (.Name y px) ("lower" : PySem.Str) ap) [] [] pos) penv) p ev':=by
 intro Q E hQ
 refine wpAny_Call_method_lateS base_attr rfl hline (h.mono fun s₁ v X1 z1 I1 r1 => ?_)
 obtain ⟨c,rfl,hc,rfl⟩:=bi_lower hb
 obtain ⟨u,rfl⟩:=r1.strE
 have X2:=Ext.toks penv.locals s₁ (s₁.toks + 1) (Nat.le_succ _)
 refine SB.lower (by rw [low_k hc];rfl) ?_
 rw [low_k hc]
 exact hQ _ _ (X1.trans X2) z1 (I1.ext S X2 (Nat.le_refl _)) (.str _ _)
theorem snd_get1 {a:Expr} {px ap pos:Pos} {q:PV} (S:Stat penv G R N) (I:Inv w penv R Z O ev s.heap s.toks) (hG:glN .b3 ∈ G) (hline:(ap.endLine == pos.line) = true) (hst:notStar a = true) (h:SndE w A penv R Z O s (eval a penv) q ev') (hb:biop .get1 [q] = some p) :
  SndE w A penv R Z O s (eval (.Call (.Attribute (.Name (glN .b3) px) ("get" : PySem.Str) ap) [a] [] pos) penv) p ev':=by
 intro Q E hQ
 have T0:s.heap.MapOf (intKind pw w) 75 _:=tab_b3 I.base
 refine wpAny_Call_method1_late base_attr hline (by rw [backTo_cons hst];rfl) (load_glob S I.base hG (gl_glob w.params .b3) ⟨"dict","dict.get",F.plainAttrs_dict,F.slot_dict_get,F.type_dict_get,T0.typeIs,T0.noDict,?_⟩ (by decide))
 refine wpAny_dict_get1 (knd:=intKind pw w) (by decide) (h.mono fun s₁ v X1 z1 I1 r1 => ?_)
 obtain ⟨i,rfl,rfl⟩:=bi_get1 hb
 obtain ⟨u,rfl⟩:=r1.intE
 have X2:=Ext.toks penv.locals s₁ (s₁.toks + 1) (Nat.le_succ _)
 refine ⟨i,_,intKind_is pw w i u,tab_b3 I1.base,?_⟩
 have:=find_b3 i _ _ (b3_ents w.params)
 cases hl:lookB i b3L with
 | none =>
  rw [hl] at this hQ
  rw [this]
  exact hQ _ _ (X1.trans X2) z1 (I1.ext S X2 (Nat.le_refl _)) .none
 | some x =>
  rw [hl] at this hQ
  obtain ⟨t,e⟩:=this
  rw [e]
  exact hQ _ _ (X1.trans X2) z1 (I1.ext S X2 (Nat.le_refl _)) (.str _ _)
end
end
section
section
variable {w:World} {A:Around} {penv:Env} {G:List PySem.Str} {R:List (PySem.Str × Nat)} {N:Nat} {Z:Addr → Prop} {O:Nat → Addr} {ev ev':Ev} {s:Shared} {p:PV} {C:Calls} {d:Nat}
theorem snd_getv {i:Nat} {t:Slot} {y:PySem.Str} {px ap pos:Pos} {a b:Expr} {j:Int} {q:PV} {l:List (Int × PV)} {ev₁ ev₂:Ev} (S:Stat penv G R N) (I:Inv w penv R Z O ev s.heap s.toks) (hline:(ap.endLine == pos.line) = true) (hR:R.lookup y = some i) (hg:getS ev i = some t)
  (hf:froz t = .dict l) (ha:notStar a = true) (hb:notStar b = true) (L1:Le ev ev₁) (L2:Le ev₁ ev₂) (h1:SndE w A penv R Z O s (eval a penv) (.int j) ev₁) (h2:∀ s₁,Inv w penv R Z O ev₁ s₁.heap s₁.toks → SndE w A penv R Z O s₁ (eval b penv) q ev₂) :
  SndE w A penv R Z O s (eval (.Call (.Attribute (.Name y px) ("get" : PySem.Str) ap) [a,b] [] pos) penv) ((lookI j l).getD q) ev₂:=by
 intro Q E hQ
 refine wpAny_Call_method2_late base_attr hline (by rw [backTo_cons ha,backTo_cons hb];rfl) (load_slot S I hR hg fun v c hne _ => ?_)
 rw [hf] at c
 obtain ⟨D,kvs,ep,rfl,hd,hs,hk,hr⟩:=c.dict
 refine ⟨"dict","dict.get",F.plainAttrs_dict,F.slot_dict_get,F.type_dict_get,(mapOf_at hd).typeIs,(mapOf_at hd).noDict,?_⟩
 refine wpAny_dict_get2 (knd:=intKind pw w) hs (h1.mono fun s₁ v X1 z1 I1 r1 => (h2 s₁ I1).mono fun s₂ u X2 z2 I2 r2 => ?_)
 cases r1 with | int _ tk =>
 have X12:=X1.trans X2
 have hd2:=dictAt_keep (h':=s₂.heap) hd fun o e => X12.heap D o (hne D rfl) e
 have hr2:=hr.go X12 (L1.trans L2)
 refine ⟨j,_,intKind_is pw w j tk,mapOf_at hd2,?_⟩
 have X3:=Ext.toks penv.locals s₂ (s₂.toks + 1) (Nat.le_succ _)
 have I3:=I2.ext S X3 (Nat.le_refl _)
 have up:∀ {v p},Rep w s₂.heap (XS Z penv O ev₂) s₂.toks v p → Rep w s₂.heap (XS Z penv O ev₂) (s₂.toks + 1) v p:=fun r => Rep.mono (fun _ _ _ e => e) (fun _ q => .inl q) (Nat.le_succ _) r
 obtain ⟨f1,f2⟩:=dict_find (h:=s₂.heap) j hk hr2
 cases hl:lookI j l with
 | none =>
  rw [hl] at hQ
  rw [f2 hl]
  exact hQ _ _ (X12.trans X3) (Nat.le_trans z1 z2) I3 (up r2)
 | some x =>
  rw [hl] at hQ
  obtain ⟨v,hv,r⟩:=f1 x hl
  rw [hv]
  exact hQ _ _ (X12.trans X3) (Nat.le_trans z1 z2) I3 (up r)
noncomputable def SmallAt (xs:List (Int × Tok)) (a:Int):Prop:=∀ j (hj:j < xs.length),small (a + ((xs.map (·.1)).take j).sum) = true ∧ small xs[j].1 = true
theorem sum_small {xs:List (Int × Tok)}:∀ {l:List PV} {a z:Int} {vs:List Value} {h:Heap} {X:Addr → Prop} {n:Nat},Reps w h X n vs l → vs = xs.map (fun p => .int p.1 p.2) → sumI l a = some z → SmallAt xs a:=by
 induction xs with
 | nil => intro l a z vs h X n r e hs j hj;exact absurd hj (Nat.not_lt_zero j)
 | cons x xs ih =>
  intro l a z vs h X n r e hs
  cases l with
  | nil => rw [r.nilE] at e;cases e
  | cons p l =>
   obtain ⟨v,us,rfl,r1,r2⟩:=r.consE
   injection e with e1 e2
   obtain ⟨i,rfl,q1,q2,hs⟩:=sumI_inv hs
   obtain ⟨t,rfl⟩:=r1.intE
   injection e1 with e1
   intro j hj
   cases j with
   | zero => exact ⟨(Int.add_zero a).symm ▸ q2,e1 ▸ q1⟩
   | succ j =>
    have:=ih r2 e2 hs j (Nat.lt_of_succ_lt_succ hj)
    rw [List.map_cons,List.take_succ_cons,List.sum_cons,← Int.add_assoc,← e1]
    exact this
theorem snd_sumv {i:Nat} {t:Slot} {y:PySem.Str} {px pn ap pos pos':Pos} {l:List (Int × PV)} {z:Int} (hA:AOk A d) (S:Stat penv G R N) (I:Inv w penv R Z O ev s.heap s.toks) (hG:biN .sum ∈ G) (hline:(ap.endLine == pos.line) = true) (hR:R.lookup y = some i) (hg:getS ev i = some t)
  (hf:froz t = .dict l) (hz:sumI (l.map (·.2)) 0 = some z) :
  SndE w A penv R Z O s (eval (.Call (.Name (biN .sum) pn) [.Call (.Attribute (.Name y px) ("values" : PySem.Str) ap) [] [] pos] [] pos') penv) (.int z) ev:=by
 intro Q E hQ
 obtain ⟨m1,m2⟩:=bi_mem (f:=.sum) (by decide)
 refine wpAny_grow ?_
 refine wpAny_Call_NameR (load_bi S I.base hG m1 ?_ m2)
 refine callWith_builtin1 (id:="sum") (Calls.spliced_cons (wpAny_Call_method0_late base_attr hline (load_slot S I hR hg fun v c hne _ => ?_)))
 rw [hf] at c
 obtain ⟨D,kvs,ep,rfl,hd,hs,hk,hr⟩:=c.dict
 refine ⟨"dict","dict.values",F.plainAttrs_dict,F.slot_dict_values,F.type_dict_values,(mapOf_at hd).typeIs,(mapOf_at hd).noDict,?_⟩
 refine Calls.callWith_builtin (args:=[]) rfl (PyProof.Rows.evalArgs_none ?_)
 refine call_meetsIn F.slot_dict_values (mapOf_at hd).typeIs F.entry_dict_values (F.args_dict_values_1 _) (meets_dict_values (intKind pw w) D hs) ⟨⟨kvs,hd.dictOf⟩,?_⟩
 refine Calls.spliced_nil ?_
 have hsz:(s.heap.push { cls:=.type "dict_values",data:=.fields #[.ref D] }).objs.size = s.heap.objs.size + 1:=Heap.size_push ..
 obtain ⟨xs,hxs,rfl⟩:=ints_sum hr hz
 have hlen:kvs.length = xs.length:=by have:=congrArg List.length hxs;simpa using this
 have hsum:=sum_small hr hxs hz
 obtain ⟨o,es,eD,_⟩:=id hd
 have hDlt:D < s.heap.objs.size:=Heap.lt_size eD
 refine call_sum_walkS (wpAny_pyIter_values (knd:=intKind pw w) (d:=D) (kvs:=kvs) (ep:=ep) ⟨_,Heap.get?_push_size _ rfl,rfl,rfl⟩ (hd.at' fun o e => Heap.get?_push_of_some _ e) ?_)
 refine ⟨_,_,_,_,_,_,_,numAt xs.toArray,rfl,(Walks.dictValues (knd:=intKind pw w) (A:=A.in1) hA.hd _ D (by rw [hsz];exact Nat.ne_of_lt (Nat.lt_succ_of_lt hDlt)) kvs ep).toS,⟨⟨_,Heap.get?_push_size _ rfl,rfl,rfl⟩,hd.at' fun o e => Heap.get?_push_of_some _ (Heap.get?_push_of_some _ e)⟩,?_,?_,?_,?_⟩
 ·intro b hb
  show b < ((s.heap.push _).push _).objs.size
  rw [Heap.size_push,hsz]
  rcases List.mem_cons.mp hb with rfl | hb
  ·rw [hsz];exact Nat.lt_succ_self _
  ·rw [List.mem_singleton] at hb;subst hb;exact Nat.lt_succ_of_lt (Nat.lt_succ_of_lt hDlt)
 ·rintro j v ⟨kk,hv⟩
  have:(kvs.map (·.2))[j]? = some v:=by rw [List.getElem?_map,hv];rfl
  rw [hxs,List.getElem?_map] at this
  obtain ⟨q,hq,rfl⟩:=Option.map_eq_some_iff.mp this
  exact ⟨q.2,by simp [numAt,hq]⟩
 ·intro j hj
  rw [hlen] at hj
  obtain ⟨b1,b2⟩:=hsum j hj
  have b1:=small_iff.mp b1
  have b2:=small_iff.mp b2
  have e1:numAt xs.toArray j = xs[j].1:=by simp [numAt,hj]
  have e2:preSum (numAt xs.toArray) (j + 1) = ((xs.map (·.1)).take j).sum + xs[j].1:=by rw [preSum,e1,preSum_eq]
  rw [e1,e2]
  unfold InLong
  refine ⟨⟨by lia,by lia⟩,by lia,by lia⟩
 ·intro s' t' hm
  have e:preSum (numAt xs.toArray) kvs.length = (xs.map (·.1)).sum:=by rw [preSum_eq,hlen,List.take_of_length_le (by simp)]
  have X:Ext penv.locals s s':=by
   refine ⟨fun b ob _ e => hm.heap b ob ?_ (Heap.get?_push_of_some _ (Heap.get?_push_of_some _ e)),fun m q => ?_,fun i y q => by rw [show s'.gens = s.gens from hm.gens];exact q,fun i y q => by rw [show s'.gens = s.gens from hm.gens] at q;exact .inl q,hm.os,hm.toks⟩
   ·rw [List.mem_singleton,hsz];exact Nat.ne_of_lt (Nat.lt_succ_of_lt (Heap.lt_size e))
   ·obtain ⟨o,es,ep,e,r⟩:=q
    refine ⟨o,es,ep,hm.heap _ _ ?_ (Heap.get?_push_of_some _ (Heap.get?_push_of_some _ e)),r⟩
    rw [List.mem_singleton,hsz];exact Nat.ne_of_lt (Nat.lt_succ_of_lt (Heap.lt_size e))
  rw [e]
  intro hz2 _
  have:=hQ s' (.int (xs.map (·.1)).sum t') X hz2 (I.ext S X hz2)
  rw [Int.zero_add] at this
  exact this (.int _ _)
end
end
section
section
open PySem.SeqAt
variable {w:World} {A:Around} {penv:Env} {G:List PySem.Str} {R:List (PySem.Str × Nat)} {N:Nat} {Z:Addr → Prop} {O:Nat → Addr} {ev ev':Ev} {s:Shared} {p:PV} {C:Calls} {d:Nat}
theorem cmp_self {u:UInt64} (h:Float64.isNaN u = false):Float64.cmp u u = some .eq:=by
 unfold Float64.isNaN at h
 unfold Float64.cmp
 cases hd:Float64.decode u with
 | nan => rw [hd] at h;cases h
 | inf a => simp
 | fin a m e => simp [Float64.align]
theorem eqAt_flt {p q:UInt64} {t u:Tok} (hb:NoneBooked s.heap) (ht:t ≠ 0) (hu:u ≠ 0) (htu:t ≠ u):EqAt A s (.float p t) (.float q u) (fcmp p q == some .eq):=fun prog w E Q h => by
 have rich:wpAny (model prog w) A (richCompare .Eq (.float p t) (.float q u) >>= truthOfDropped) Q E s :=
  wpAny_bind (richCompare_gives (typeIs_float s p t) (typeIs_float s q u) F.slot_float_eq F.entry_float_eq (F.args_float_eq_2 _ _) (AutoFloatG5.float___eq___float_float_0 p t q u) (fun x => nomatch x) (wpAny_truthy_bool h))
 unfold eqBool
 refine wpAny_holding ?_
 refine wpAny_ite_split (fun hab => ?_) (fun _ => ?_)
 ·have:=eq_of_beq hab
  injection this with _ e
  exact absurd e htu
 ·refine wpAny_bind ?_
  show wpAny _ A (isSame (.float p t) (.float q u)) _ E s
  unfold isSame isSame.created
  dsimp only
  rw [if_neg (by simp [ht,hu]),if_neg (by simpa using htu)]
  by_cases heq:(p == q && !Float64.isNaN p) = true
  ·rw [heq,if_neg (by simp)]
   rw [Bool.and_eq_true,beq_iff_eq] at heq
   obtain ⟨rfl,hn⟩:=heq
   have hc:(fcmp p p == some .eq) = true:=by unfold fcmp;rw [cmp_self (by simpa using hn)];rfl
   refine wpAny_bind (wpAny_sharingNotTold_none hb ?_)
   rw [if_neg (by simp)]
   refine wpAny_bind (wpAny_sharingNotTold_none hb ?_)
   rw [if_neg (by simp)]
   refine wpAny_bind (wpAny_rule (wpAny_bind (wpAny_askSetting (wpAny_pure ?_))))
   cases hm:(w.params.mergeTok t == w.params.mergeTok u) with
   | true =>
    show wpAny _ A (if ((w.params.mergeTok t == w.params.mergeTok u):Bool) = true then _ else _) Q E s
    rw [if_pos hm]
    exact wpAny_pure (hc ▸ h)
   | false =>
    show wpAny _ A (if ((w.params.mergeTok t == w.params.mergeTok u):Bool) = true then _ else _) Q E s
    rw [if_neg (by rw [hm];exact Bool.false_ne_true)]
    exact rich
  ·rw [eq_false_of_ne_true heq,if_pos (by simp)]
   refine wpAny_pure ?_
   show wpAny _ A (if (false:Bool) = true then _ else _) Q E s
   rw [if_neg Bool.false_ne_true]
   exact rich
noncomputable def FlsAt (n:Nat) (vs:List Value):List UInt64 → Prop
 | [] => vs = []
 | u :: l => ∃ t r,vs = .float u t :: r ∧ n ≤ t ∧ FlsAt n r l
theorem FlsAt.mono {n m:Nat} (h:n ≤ m) {l:List UInt64}:∀ {vs:List Value},FlsAt m vs l → FlsAt n vs l:=by
 induction l with
 | nil => exact fun q => q
 | cons u l ih => exact fun ⟨t,r,e,q,f⟩ => ⟨t,r,e,Nat.le_trans h q,ih f⟩
theorem FlsAt.len {n:Nat} {l:List UInt64}:∀ {vs:List Value},FlsAt n vs l → vs.length = l.length:=by
 induction l with
 | nil => exact fun q => q ▸ rfl
 | cons u l ih => exact fun ⟨t,r,e,q,f⟩ => e ▸ congrArg (· + 1) (ih f)
theorem snd_flts {pos:Pos} {l:List UInt64}:∀ {es:List Expr} (s:Shared),isFls es l = true → ∀ (Q:List Value → Shared → Prop) (E:Value → Shared → Prop),(∀ tk vs,s.toks ≤ tk → FlsAt s.toks vs l → Q vs { s with toks:=tk }) →
  wpAny (model pw w) A (spliced (backTo pos (starEach es penv))) Q E s:=by
 induction l with
 | nil =>
  intro es s h Q E hQ
  obtain rfl:=List.isEmpty_iff.mp h
  exact Calls.spliced_nil (hQ s.toks [] (Nat.le_refl _) rfl)
 | cons u l ih =>
  intro es s h Q E hQ
  obtain ⟨h0,h1,h2⟩:=and_3 h
  rw [cons_hd h0,isK_ h1,backTo_cons rfl]
  refine Calls.spliced_cons (PySem.wpAny_Constant_float (ih _ h2 _ _ fun tk vs ht hv => ?_))
  exact hQ tk _ (Nat.le_trans (Nat.le_succ _) ht) ⟨_,_,rfl,Nat.le_refl _,hv.mono (Nat.le_succ _)⟩
noncomputable def SndF (w:World) (A:Around) (penv:Env) (R:List (PySem.Str × Nat)) (Z:Addr → Prop) (O:Nat → Addr) (s:Shared) (t:Sem Value) (l:List UInt64) (ev':Ev):Prop :=
 ∀ (Q:Value → Shared → Prop) (E:Value → Shared → Prop),(∀ s' a us,Ext penv.locals s s' → s.heap.objs.size ≤ s'.heap.objs.size → Inv w penv R Z O ev' s'.heap s'.toks → s'.heap.IsTuple a (List.toArray us) → FlsAt s.toks us l → Q (.ref a) s') → wpAny (model pw w) A t Q E s
theorem sndF_tuple {es:List Expr} {kk:Nat} {pos:Pos} {l:List UInt64} (S:Stat penv G R N) (I:Inv w penv R Z O ev s.heap s.toks) (h:isFls es l = true) (hlen:l.length < 1000):SndF w A penv R Z O s (eval (.Tuple es kk pos) penv) l ev:=by
 intro Q E hQ
 refine wpAny_Tuple (snd_flts s h _ _ fun tk vs ht hv => ⟨?_,?_⟩)
 ·have:=hv.len;rw [show sizeLine = 16777216 from rfl];lia
 ·have X:Ext penv.locals s { s with heap:=s.heap.push { cls:=.type "tuple",data:=.seq vs.toArray },toks:=tk }:=Ext.push _ s _ tk ht
  exact hQ _ _ vs X push_le (I.ext S X push_le) ⟨_,Heap.get?_push_size _ rfl,rfl,_,rfl⟩ hv
theorem flts_inv {ps:List PV} {l:List UInt64} {b:Bool} (h:fltsEq ps l = some b):(ps = [] ∧ l = [] ∧ b = true) ∨ ∃ v r u l' y,ps = .flt v :: r ∧ l = u :: l' ∧ fltsEq r l' = some y ∧ (fcmp v u == some .eq && y) = b:=by
 cases ps with
 | nil =>
  cases l with
  | nil => exact .inl ⟨rfl,rfl,(Option.some.inj h).symm⟩
  | cons => exact (nS h).elim
 | cons v r =>
  cases l with
  | nil => cases v <;> exact (nS h).elim
  | cons u l' =>
   cases v <;> first | exact (nS h).elim | skip
   have h:(match fltsEq r l' with | some y => some (fcmp _ u == some .eq && y) | none => none) = some b:=h
   cases hy:fltsEq r l' with
   | none => rw [hy] at h;exact (nS h).elim
   | some y => rw [hy] at h;exact .inr ⟨_,r,u,l',y,rfl,rfl,hy,Option.some.inj h⟩
theorem flts_at {h:Heap} {X:Addr → Prop} {n:Nat} (hb:NoneBooked s.heap) (hn:1 ≤ n) {l:List UInt64}:∀ {ps:List PV} {vs us:List Value} {b:Bool},Reps w h X n vs ps → FlsAt n us l → fltsEq ps l = some b → AllAt (EqAt A s) vs us b:=by
 induction l with
 | nil =>
  intro ps vs us b r f e
  rcases flts_inv e with ⟨rfl,_,rfl⟩ | ⟨_,_,_,_,_,_,e',_⟩
  ·obtain rfl:=r.nilE
   obtain rfl:us = []:=f
   exact .nil
  ·first | exact (nS e').elim | exact (sN e').elim | exact (fT e').elim | cases e'
 | cons u l ih =>
  intro ps vs us b r f e
  rcases flts_inv e with ⟨_,e',_⟩ | ⟨v,r',_,_,y,rfl,eu,hy,rfl⟩
  ·first | exact (nS e').elim | exact (sN e').elim | exact (fT e').elim | cases e'
  ·cases eu
   obtain ⟨_,vs,rfl,a,r2⟩:=r.consE
   obtain ⟨t,rfl,h0,h1⟩:=a.fltE
   obtain ⟨t',us,rfl,ht,f2⟩:=f
   exact .cons (eqAt_flt hb h0 (Nat.ne_of_gt (Nat.lt_of_lt_of_le (Nat.lt_of_lt_of_le Nat.zero_lt_one hn) ht)) (Nat.ne_of_lt (Nat.lt_of_lt_of_le h1 ht))) (ih r2 f2 hy)
theorem snd_ne {y r:Expr} {pos:Pos} {whole:Sem Value} {ps:List PV} {l:List UInt64} {b:Bool} {ev₁ ev₂:Ev} (hA:AOk A d) (S:Stat penv G R N) (hm:behindInMarks .NotEq r = false) (L2:Le ev₁ ev₂) (h1:SndE w A penv R Z O s (eval y penv) (.tup ps) ev₁)
  (h2:∀ s₁,Inv w penv R Z O ev₁ s₁.heap s₁.toks → SndF w A penv R Z O s₁ (eval r penv) l ev₂) (he:fltsEq ps l = some b):SndB w A penv R Z O s (isTrue (.Compare y [.NotEq] [r] pos) penv whole) (!b) ev₂:=by
 intro Q E hQ
 refine wpAny_isTrue_Compare1 (h1.mono fun s₁ v X1 z1 I1 r1 => h2 s₁ I1 _ _ fun s₂ a us X2 z2 I2 ht hf => ?_) hm
 obtain ⟨a₁,vs,rfl,ha,hx,hr⟩:=r1.tupE
 have ha2:s₂.heap.IsTuple a₁ vs.toArray:=by
  obtain ⟨o,e,c⟩:=ha
  exact ⟨o,X2.heap a₁ o (fun q => hx (q ▸ xs_loc)) e,c⟩
 obtain ⟨hl,g,hg,hall⟩:=flts_at (A:=A.in1) (s:=s₂) (nobook I2.base) I1.pos hr hf he
 have:=RcNeAt.tuples (A:=A) (e:=g) ha2 ht (Nat.lt_of_le_of_lt (Nat.le_add_right _ 1) (by have:=hA.un;lia)) hg
 rw [tuple_b hl hall] at this
 exact this pw w E _ (wpAny_truthy_bool (hQ s₂ (X1.trans X2) (Nat.le_trans z1 z2) I2))
theorem snd_tval {x:Expr} {b:Bool} (hp:plainT x = true) (h:SndE w A penv R Z O s (eval x penv) (.bool b) ev'):SndB w A penv R Z O s (isTrue x penv (eval x penv)) b ev':=by
 intro Q E hQ
 have key:wpAny (model pw w) A (eval x penv) (fun v s₁ => wpAny (model pw w) A (truthy v) Q E s₁) E s:=h.mono fun s₁ v X1 z1 I1 r1 => r1.boolE ▸ wpAny_truthy_bool (hQ s₁ X1 z1 I1)
 refine wpAny_isTrue_value key ?_
 rcases Bool.or_eq_true_iff.mp hp with h | h
 ·rw [show x = _ from isT_ h];rfl
 ·rw [show x = _ from isT_ h];rfl
theorem snd_tcmp {op:Cop} {x y:PV} {b:Bool} {l r:Expr} {pos:Pos} {whole:Sem Value} {ev₁ ev₂:Ev} (hA:AOk A d) (S:Stat penv G R N) (hm:behindInMarks (coOf op) r = false) (hb:cmpop op x y = some b)
  (L2:Le ev₁ ev₂) (h1:SndE w A penv R Z O s (eval l penv) x ev₁) (h2:∀ s₁,Inv w penv R Z O ev₁ s₁.heap s₁.toks → SndE w A penv R Z O s₁ (eval r penv) y ev₂):SndB w A penv R Z O s (isTrue (.Compare l [coOf op] [r] pos) penv whole) b ev₂:=by
 intro Q E hQ
 exact wpAny_isTrue_Compare1 (snd_cmp hA S hb L2 h1 h2 fun s' X z I => wpAny_truthy_bool (hQ s' X z I)) hm
theorem snd_cmpE {op:Cop} {x y:PV} {b:Bool} {l r:Expr} {pos:Pos} {ev₁ ev₂:Ev} (hA:AOk A d) (S:Stat penv G R N) (hm:behindInMarks (coOf op) r = false) (hb:cmpop op x y = some b)
  (L2:Le ev₁ ev₂) (h1:SndE w A penv R Z O s (eval l penv) x ev₁) (h2:∀ s₁,Inv w penv R Z O ev₁ s₁.heap s₁.toks → SndE w A penv R Z O s₁ (eval r penv) y ev₂):SndE w A penv R Z O s (eval (.Compare l [coOf op] [r] pos) penv) (.bool b) ev₂:=by
 intro Q E hQ
 exact wpAny_Compare1 (snd_cmp hA S hb L2 h1 h2 fun s' X z I => hQ s' _ X z I (.bool b)) hm
theorem snd_notv {x:Expr} {pos:Pos} {b:Bool} (h:SndE w A penv R Z O s (eval x penv) (.bool b) ev'):SndE w A penv R Z O s (eval (.UnaryOp .Not x pos) penv) (.bool (!b)) ev':=by
 intro Q E hQ
 refine wpAny_UnaryOp (h.mono fun s₁ v X1 z1 I1 r1 => ?_)
 obtain rfl:=r1.boolE
 exact not_of (wpAny_truthy_bool (hQ s₁ _ X1 z1 I1 (.bool _)))
end
end
section
noncomputable def posE (e:Expr):List Pos:=(if isT 3 e then [(view (view e).a).p,(view (view e).b).p] else []) ++ [(view e).p]
noncomputable def posA (s:Stmt):List Pos:=[(view (hd (viewS s).ts)).p,(view (viewS s).a).p,(viewS s).p]
noncomputable def yT (s:Stmt):Expr:=(view (viewS s).a).oa.getD default
noncomputable def posY (s:Stmt):List Pos:=(view (yT s)).es.flatMap posE ++ [(view (yT s)).p,(view (viewS s).a).p,(viewS s).p]
noncomputable def gS (i:Nat):Stmt:=(fBd 0).getD i default
noncomputable def gI:Stmt:=hd (viewS (gS 2)).bs
noncomputable def gJ:Stmt:=hd (viewS gI).cs
noncomputable def gPs:List Pos:=(view (viewS gI).a).p :: posY (hd (viewS gI).bs) ++ posA (hd2 (viewS gI).bs) ++ [(view (view (viewS gJ).a).a).p,(view (hd (view (viewS gJ).a).es)).p,(view (viewS gJ).a).p] ++ posA (hd (viewS gJ).bs) ++ posY (hd (viewS gJ).cs) ++ [(viewS gJ).p,(viewS gI).p] ++
 ((view (viewS (gS 2)).a).es.flatMap posE ++ [(view (viewS (gS 2)).a).p]) ++ [(view (viewS (gS 3)).a).p] ++ posY (hd (viewS (gS 3)).bs) ++ [(viewS (gS 3)).p] ++ posA (gS 0) ++ posA (gS 1) ++ [(view (view (viewS (gS 2)).b).a).p,(view (hd (view (viewS (gS 2)).b).es)).p,(view (viewS (gS 2)).b).p,(viewS (gS 2)).p]
noncomputable def gP (i:Nat):Pos:=gPs.getD i default
theorem gBody_is:fBd 0 = gBody gP:=by kernel_rfl
theorem gScope:(fSc 0).kind = .function ∧ (fSc 0).isCoroutine = false ∧ (fSc 0).isGenerator = true:=⟨rfl,rfl,rfl⟩
theorem gNames:(fSc 0).names.lookup nAddr = some .local ∧ (fSc 0).names.lookup nPos = some .local ∧ (fSc 0).names.lookup nEsc = some .local ∧ (fSc 0).names.lookup nCh = some .local ∧ (fSc 0).names.lookup enumN = some .globalImplicit:=⟨rfl,rfl,rfl,rfl,rfl⟩
theorem gCell:∀ x ∈ (fSc 0).names,x.2 ≠ .cell:=by decide
theorem gBinds (v:Value):bindsOf 0 [v] = [(nAddr,v)]:=rfl
section
variable {w:World} {A:Around} {penv:Env} {G:List PySem.Str} {R:List (PySem.Str × Nat)} {N:Nat} {Z:Addr → Prop} {O:Nat → Addr} {ev ev':Ev} {s:Shared} {p:PV} {C:Calls} {d:Nat}
noncomputable def SndI (w:World) (A:Around) (penv:Env) (R:List (PySem.Str × Nat)) (Z:Addr → Prop) (O:Nat → Addr) (s:Shared) (t:Sem Value) (its:List PV) (ev':Ev):Prop :=
 ∀ (Q:Value → Shared → Prop) (E:Value → Shared → Prop),(∀ s₀ it s₂,Ext penv.locals s s₀ → s.heap.objs.size ≤ s₀.heap.objs.size → Inv w penv R Z O ev' s₀.heap s₀.toks → Iters w A (XS Z penv O ev') s₀ its it s₂ → s₀.heap.objs.size ≤ s₂.heap.objs.size → Q it s₂) →
  wpAny (model pw w) A t (fun xv s₁ => wpAny (model pw w) A (pyIter xv) Q E s₁) E s
theorem sndI_val {x:Expr} {its:List PV} (hA:AOk A d) (h:SndE w A penv R Z O s (eval x penv) p ev') (hi:itsOf p = some its):SndI w A penv R Z O s (eval x penv) its ev':=by
 intro Q E hQ
 exact h.mono fun s₁ v X1 z1 I1 r1 => wpAny_grow (iter_val hA.hd r1 hi fun it s₂ hi2 hz _ => hQ s₁ it s₂ X1 z1 I1 hi2 hz)
theorem range_mem:(rangeN,Value.type "range") ∈ biL:=by simp [biL]
theorem sndI_range {a:Expr} {px pos:Pos} {i:Int} (hA:AOk A d) (S:Stat penv G R N) (I:Inv w penv R Z O ev s.heap s.toks) (hG:rangeN ∈ G) (hst:notStar a = true) (h:SndE w A penv R Z O s (eval a penv) (.int i) ev') (hi:small i = true) :
  SndI w A penv R Z O s (eval (.Call (.Name rangeN px) [a] [] pos) penv) (rangeI 0 i.toNat) ev':=by
 intro Q E hQ
 refine wpAny_Call_NameR (load_bi S I.base hG range_mem ?_ (by decide))
 refine callWith_type1 ?_ (starEach_cons hst)
 rw [backTo_cons hst]
 refine Calls.spliced_cons (h.mono fun s₁ v X1 z1 I1 r1 => Calls.spliced_nil ?_)
 cases r1 with | int _ t =>
 refine call_range_1 ?_
 have X2:Ext penv.locals s₁ { s₁ with heap:=s₁.heap.push { cls:=.type "range",data:=.fields #[.int 0 s₁.toks,.int i t,.int 1 (s₁.toks + 1)] },toks:=s₁.toks + 1 + 1 }:=Ext.push _ s₁ _ _ (Nat.le_succ_of_le (Nat.le_succ _))
 have I2:=I1.ext S X2 push_le
 refine wpAny_grow (iter_range (X:=XS Z penv O ev') (i:=0) (j:=i) hA.hd (by decide) hi (IsRange.new ..) fun it s₂ hi2 hz _ => ?_)
 rw [Int.sub_zero] at hi2
 exact hQ _ it s₂ (X1.trans X2) (Nat.le_trans z1 push_le) I2 hi2 hz
theorem sndI_range2 {a b:Expr} {px pos:Pos} {i j:Int} {ev₁:Ev} (hA:AOk A d) (S:Stat penv G R N) (I:Inv w penv R Z O ev s.heap s.toks) (hG:rangeN ∈ G) (ha:notStar a = true) (hb:notStar b = true) (h1:SndE w A penv R Z O s (eval a penv) (.int i) ev₁)
  (h2:∀ s₁,Inv w penv R Z O ev₁ s₁.heap s₁.toks → SndE w A penv R Z O s₁ (eval b penv) (.int j) ev') (hi:small i = true) (hj:small j = true) :
  SndI w A penv R Z O s (eval (.Call (.Name rangeN px) [a,b] [] pos) penv) (rangeI i (j - i).toNat) ev':=by
 intro Q E hQ
 refine wpAny_Call_NameR (load_bi S I.base hG range_mem ?_ (by decide))
 refine callWith_type1 ?_ (starEach_cons ha) (star_plain [b] (by simpa using hb))
 rw [backTo_cons ha,backTo_cons hb]
 refine Calls.spliced_cons (h1.mono fun s₁ v X1 z1 I1 r1 => Calls.spliced_cons ((h2 s₁ I1).mono fun s₂ u X2 z2 I2 r2 => Calls.spliced_nil ?_))
 cases r1 with | int _ t =>
 cases r2 with | int _ t' =>
 refine call_range_2 ?_
 have X3:Ext penv.locals s₂ { s₂ with heap:=s₂.heap.push { cls:=.type "range",data:=.fields #[.int i t,.int j t',.int 1 s₂.toks] },toks:=s₂.toks + 1 }:=Ext.push _ s₂ _ _ (Nat.le_succ _)
 have I3:=I2.ext S X3 push_le
 refine wpAny_grow (iter_range (X:=XS Z penv O ev') hA.hd hi hj (IsRange.new ..) fun it s₃ hi2 hz _ => ?_)
 exact hQ _ it s₃ ((X1.trans X2).trans X3) (Nat.le_trans z1 (Nat.le_trans z2 push_le)) I3 hi2 hz
theorem gen_call {x:List Nat} {t:Tok} {X:Addr → Prop} {Q:Value → Shared → Prop} {E:Value → Shared → Prop} (hA:AOk A d) (I:(KF w.params).In s.heap) (hx:x.length ≤ 100000) (hX:∀ a,Low a → X a)
  (hQ:∀ it s₂,Iters w A X s (esc 0 false x) it s₂ → s.heap.objs.size ≤ s₂.heap.objs.size → Q it s₂) :
  wpAny (model pw w) A (call (.ref (fA 0)) [.str (k x) t]) (fun v s₁ => wpAny (model pw w) A (pyIter v) Q E s₁) E s:=by
 obtain ⟨o,pm,cd,doc,eo,ho,hcd⟩:=fn_obj I (f:=0) (by decide)
 have hroom:A.depth < recursionLimit:=by have:=hA.dep;show _ < 1000;lia
 refine wpAny_call (codeAny_call_generator hroom eo ho gScope.2.1 gScope.2.2 rfl hcd (wpAny_of_eq (bind_0 (.str (k x) t)) ?_))
 rw [gBinds]
 refine wpAny_newFunctionEnv gCell (fun y hy => by rw [List.mem_singleton] at hy;subst hy;exact gNames.1) (fun h' hns hsb => ?_) gScope.1
 have hsz:h'.objs.size = s.heap.objs.size + 1:=by rw [hsb.1];exact Heap.size_push ..
 have kept:∀ b o,s.heap.get? b = some o → h'.get? b = some o:=fun b o e => hsb.extBut b o (fresh_push e) (Heap.get?_push_of_some _ e)
 have I':(KF w.params).In h':=fun a o q => kept a o (I a o q)
 have hL:188 ≤ s.heap.objs.size:=kf_size I
 refine ⟨nolimit I',?_⟩
 rw [hsz]
 have hgen:(h'.push { cls:=.type "generator",data:=.fields #[.int s.gens.size 0,.str (fnm 0) (s.toks + 1),.str (fnm 0) (s.toks + 1 + 1)] }).IsGen (s.heap.objs.size + 1) s.gens.size:=by
  have:=Heap.get?_push_size h' (o:={ cls:=.type "generator",data:=.fields #[.int s.gens.size 0,.str (fnm 0) (s.toks + 1),.str (fnm 0) (s.toks + 1 + 1)] }) rfl
  rw [hsz] at this
  exact ⟨_,_,_,this,rfl,rfl,rfl⟩
 refine wpAny_pyIter_gen hgen (hQ _ _ ?_ ?_)
 ·have hm:(fun y:PySem.Str => ([(nAddr,Value.str (k x) t)]:List (PySem.Str × Value)).reverse.lookup y) nAddr = some (.str (k x) t):=by simp
  have kept2:∀ b o,s.heap.get? b = some o → (h'.push { cls:=.type "generator",data:=.fields #[.int s.gens.size 0,.str (fnm 0) (s.toks + 1),.str (fnm 0) (s.toks + 1 + 1)] }).get? b = some o:=fun b o e => Heap.get?_push_of_some _ (kept b o e)
  refine ⟨fun b => b = s.heap.objs.size ∨ b = s.heap.objs.size + 1,(· = s.gens.size),⟨fun b o _ e => kept2 b o e,fun i y _ e => ?_,fun i y e => ?_,rfl,?_⟩,fun b hb => ?_,fun i hi => ?_,?_⟩
  ·have hlt:i < s.gens.size:=by
    rcases Nat.lt_or_ge i s.gens.size with q | q
    ·exact q
    ·rw [Array.getElem?_eq_none q] at e;exact (nS e).elim
   show (s.gens.push _)[i]? = some y
   rw [Array.getElem?_push_lt hlt,← Array.getElem?_eq_getElem hlt];exact e
  ·have e:(s.gens.push (.fresh (.func (fBd 0) _)))[i]? = some y:=e
   rw [Array.getElem?_push] at e
   split at e
   ·cases e;exact .inr rfl
   ·exact .inl e
  ·show s.toks ≤ s.toks + 1 + 1 + 1;lia
  ·refine ⟨Heap.get?_none_of_le (by rcases hb with rfl | rfl;exact Nat.le_refl _;exact Nat.le_succ _),?_⟩
   show b < (h'.push _).objs.size
   rw [Heap.size_push,hsz]
   rcases hb with rfl | rfl
   ·exact Nat.lt_succ_of_lt (Nat.lt_succ_self _)
   ·exact Nat.lt_succ_self _
  ·subst hi;exact Array.getElem?_eq_none (Nat.le_refl _)
  ·refine ⟨?_,fun s₁ Q E l q => wpAny_pyIter_gen (isGen_at hgen fun o e => l.heap _ o (.inl (.inr rfl)) e) q⟩
   refine gen_pulls (L:=s.heap.objs.size) (Ga:=s.heap.objs.size + 1) (P:=gP) (env:=newEnv (fSc 0) s.heap.objs.size mainGlobals [] (fnm 0 ++ ".<locals>.") (some (fA 0)) cd none builtinsNs) hA.hd hroom ⟨gScope.1,gScope.2.1,rfl,rfl,rfl,gNames.1,gNames.2.1,gNames.2.2.1,gNames.2.2.2.1,gNames.2.2.2.2⟩ hL (Nat.succ_ne_self _)
    (fun a o q => kept2 a o (I a o q)) (hns.push _) hm hx hgen ?_ fun b => Iff.rfl
   show (s.gens.push (.fresh (.func (fBd 0) _)))[s.gens.size]? = _
   rw [Array.getElem?_push_size,gBody_is]
   rfl
 ·show s.heap.objs.size ≤ (h'.push _).objs.size
  rw [Heap.size_push,hsz];exact Nat.le_succ_of_le (Nat.le_succ _)
theorem sndI_gen {a:Expr} {px pos:Pos} {x:List Nat} (hA:AOk A d) (S:Stat penv G R N) (I:Inv w penv R Z O ev s.heap s.toks) (hG:fnm 0 ∈ G) (hst:notStar a = true) (h:SndE w A penv R Z O s (eval a penv) (.str x) ev') (hx:lim x.length = true) :
  SndI w A penv R Z O s (eval (.Call (.Name (fnm 0) px) [a] [] pos) penv) (esc 0 false x) ev':=by
 intro Q E hQ
 obtain ⟨o,pm,cd,doc,eo,ho,hcd⟩:=fn_obj I.base (f:=0) (by decide)
 refine wpAny_Call_NameR (load_glob S I.base hG (fn_glob w.params (f:=0) (by decide)) ?_ (fn_dbg (by decide)))
 refine callWith_def ho ?_ (starEach_cons hst)
 rw [backTo_cons hst]
 refine Calls.spliced_cons (h.mono fun s₁ v X1 z1 I1 r1 => Calls.spliced_nil ⟨X1.heap _ o (fun e => absurd (fA_lt (f:=0) (by decide)) (Nat.not_lt.mpr (e ▸ S.lo))) eo,?_⟩)
 cases r1 with | str _ t =>
 exact gen_call hA I1.base (by have:=lim_iff.mp hx;lia) xs_low fun it s₂ hi hz => hQ s₁ it s₂ X1 z1 I1 hi hz
end
end
section
section
variable {w:World} {A:Around} {penv:Env} {G:List PySem.Str} {R:List (PySem.Str × Nat)} {N:Nat} {Z Z':Addr → Prop} {O:Nat → Addr} {ev ev':Ev} {s s':Shared} {p:PV} {C:Calls} {d:Nat}
theorem Inv.held {M T:Addr → Prop} {Gm:Nat → Prop} (I:Inv w penv R Z O ev s.heap s.toks) (hT:∀ b,T b → Z b) (hT8:∀ b,T b → 188 ≤ b) (hTL:¬ T penv.locals) (hTc:∀ x c,penv.cells.lookup x = some c → ¬ T c) (c:Chg M Gm s s') (hM:∀ b,M b → T b ∨ s.heap.get? b = none) (hz:s.heap.objs.size ≤ s'.heap.objs.size) :
  Inv w penv R Z O ev s'.heap s'.toks:=by
 have keep:∀ b o,¬ T b → s.heap.get? b = some o → s'.heap.get? b = some o:=fun b o h e => c.heap b o (fun q => by rcases hM b q with q | q;exact h q;rw [q] at e;cases e) e
 exact I.chg (fun b o h e => keep b o (fun q => h (xs_z (hT b q))) e) (fun i t hg ho o e => keep _ o (fun q => (I.ne i t hg ho).2.2.2.2 (hT _ q)) e) (fun b o h e => keep b o (fun q => absurd h (Nat.not_lt.mpr (hT8 b q))) e)
  (fun m ⟨o,es,ep,e,r⟩ => ⟨o,es,ep,keep _ _ hTL e,r⟩) (fun x c' v hc q => isCell_at q fun o e => keep _ o (hTc x c' hc) e) (fun b hb => .inl hb) (fun b hb => Nat.lt_of_lt_of_le (I.zex b hb) hz) c.tk
theorem Rep.held {M:Addr → Prop} {Gm:Nat → Prop} {X:Addr → Prop} {v:Value} (r:Rep w s.heap X s.toks v p) (c:Chg M Gm s s') (hM:∀ b,M b → X b ∨ s.heap.get? b = Option.none):Rep w s'.heap X s'.toks v p :=
 r.mono (fun b o h e => c.heap b o (fun q => by rcases hM b q with q | q;exact h q;rw [q] at e;cases e) e) (fun _ q => .inl q) c.tk
theorem Reps.held {M:Addr → Prop} {Gm:Nat → Prop} {X:Addr → Prop} {vs:List Value} {ps:List PV} (r:Reps w s.heap X s.toks vs ps) (c:Chg M Gm s s') (hM:∀ b,M b → X b ∨ s.heap.get? b = none):Reps w s'.heap X s'.toks vs ps :=
 r.mono (fun b o h e => c.heap b o (fun q => by rcases hM b q with q | q;exact h q;rw [q] at e;cases e) e) (fun _ q => .inl q) c.tk
theorem Inv.more (I:Inv w penv R Z O ev s.heap s.toks) (T:Addr → Prop) (hT:∀ b,T b → s.heap.get? b = none) (c:Chg noA noG s s') (hz:s.heap.objs.size ≤ s'.heap.objs.size) (hTz:∀ b,T b → b < s'.heap.objs.size):Inv w penv R (fun a => Z a ∨ T a) O ev s'.heap s'.toks :=
 I.chg (fun b o _ e => c.heap b o id e) (fun _ _ _ _ o e => c.heap _ o id e) (fun b o _ e => c.heap b o id e) (fun m ⟨o,es,ep,e,r⟩ => ⟨o,es,ep,c.heap _ _ id e,r⟩) (fun x c' v _ q => isCell_at q fun o e => c.heap _ o id e)
  (fun b hb => hb.imp id (hT b)) (fun b hb => hb.elim (fun q => Nat.lt_of_lt_of_le (I.zex b q) hz) (hTz b)) c.tk
noncomputable def KOk (penv:Env) (K:List PySem.Str):Prop:=∀ x ∈ K,penv.kindOf x = some .cell ∧ ∃ c,penv.cells.lookup x = some c
noncomputable def clOf (cells:List (PySem.Str × Addr)):List (PySem.Str × NameKind) → List (PySem.Str × Addr) → List (PySem.Str × Addr)
 | [],acc => acc
 | (n,kd) :: r,acc => if kd == .free then clOf cells r ((n,(cells.lookup n).getD 0) :: acc) else clOf cells r acc
theorem clOf_c {cells:List (PySem.Str × Addr)} {n:PySem.Str} {kd:NameKind} {r:List (PySem.Str × NameKind)} {acc:List (PySem.Str × Addr)}:clOf cells ((n,kd) :: r) acc = if kd == .free then clOf cells r ((n,(cells.lookup n).getD 0) :: acc) else clOf cells r acc:=rfl
theorem closure_is {sc:Scope} (h:∀ q ∈ sc.names,q.2 = .free → ∃ c,penv.cells.lookup q.1 = some c):closureFor sc penv = pure (clOf penv.cells sc.names []):=by
 have:∀ (l:List (PySem.Str × NameKind)) (acc:List (PySem.Str × Addr)),(∀ q ∈ l,q.2 = .free → ∃ c,penv.cells.lookup q.1 = some c) →
   (forIn l acc fun (q:PySem.Str × NameKind) (cs:List (PySem.Str × Addr)) => (if (q.2 == NameKind.free) = true then (do let a ← cellOf penv q.1;pure (ForInStep.yield ((q.1,a) :: cs))) else pure (ForInStep.yield cs):Sem (ForInStep (List (PySem.Str × Addr))))) = pure (clOf penv.cells l acc):=by
  intro l
  induction l with
  | nil => intro acc _;rfl
  | cons q r ih =>
   intro acc hq
   obtain ⟨n,kd⟩:=q
   rw [List.forIn_cons]
   rw [clOf_c]
   by_cases hk:kd = .free
   ·obtain ⟨c,hc⟩:=hq (n,kd) (.head _) hk
    subst hk
    have hcell:cellOf penv n = pure c:=by unfold cellOf;rw [show penv.cells.lookup n = some c from hc]
    simp only [beq_self_eq_true,if_true,hcell]
    rw [show (penv.cells.lookup n) = some c from hc]
    exact ih ((n,c) :: acc) fun q' h' => hq q' (.tail _ h')
   ·have hb:(kd == NameKind.free) = false:=by simpa using hk
    simp only [hb,Bool.false_eq_true,if_false]
    exact ih acc fun q' h' => hq q' (.tail _ h')
 unfold closureFor
 have e:=this sc.names [] h
 have e2:(forIn sc.names ([]:List (PySem.Str × Addr)) fun (x:PySem.Str × NameKind) r => (match x with
   | (name,kind) => if (kind == NameKind.free) = true then (do let a ← cellOf penv name;pure (ForInStep.yield ((name,a) :: r))) else pure (ForInStep.yield r):Sem (ForInStep (List (PySem.Str × Addr))))) = pure (clOf penv.cells sc.names []):=e
 first
  | exact congrArg (· >>= fun cs => pure cs) e2
  | (rw [e2];rfl)
  | exact e2
theorem clOf_look {cells:List (PySem.Str × Addr)} {x:PySem.Str}:∀ (l:List (PySem.Str × NameKind)) (acc:List (PySem.Str × Addr)),
  (clOf cells l acc).lookup x = if l.any (fun q => q.1 == x && q.2 == .free) then some ((cells.lookup x).getD 0) else acc.lookup x
 | [],acc => rfl
 | (n,kd) :: r,acc => by
  rw [clOf_c]
  by_cases hk:kd = .free
  ·subst hk
   rw [if_pos (by rfl),clOf_look r]
   by_cases hn:n = x
   ·subst hn
    simp [List.lookup_cons]
   ·have h1:(x == n) = false:=by simpa using fun e => hn e.symm
    have h2:(n == x) = false:=by simpa using hn
    simp [List.lookup_cons,h1,h2]
  ·have hb:(kd == NameKind.free) = false:=by simpa using hk
   rw [if_neg (by rw [hb];exact Bool.false_ne_true),clOf_look r]
   simp [hb]
theorem lk_ite {b:Bool} {n:PySem.Str} {kd:NameKind}:(if b = true then (n,NameKind.cell) else (n,kd)) = (n,if b = true then NameKind.cell else kd):=by cases b <;> rfl
theorem relabel_look {sc:Scope} {x:PySem.Str}:(relabel sc penv).names.lookup x = (sc.names.lookup x).map fun kd => if (kd == .free && penv.scope.kind == .function && penv.kindOf x == some .cell) = true then .cell else kd:=by
 have:∀ (l:List (PySem.Str × NameKind)),(l.map fun (q:PySem.Str × NameKind) => (if (q.2 == .free && penv.scope.kind == .function && penv.kindOf q.1 == some .cell) = true then (q.1,NameKind.cell) else (q.1,q.2))).lookup x =
   (l.lookup x).map fun kd => if (kd == .free && penv.scope.kind == .function && penv.kindOf x == some .cell) = true then .cell else kd:=by
  intro l
  induction l with
  | nil => rfl
  | cons q r ih =>
   obtain ⟨n,kd⟩:=q
   rw [List.map_cons,List.lookup_cons]
   rw [lk_ite]
   by_cases hn:x = n
   ·subst hn
    rw [List.lookup_cons,beq_self_eq_true]
    rfl
   ·have h1:(x == n) = false:=by simpa using hn
    rw [List.lookup_cons]
    simp only [h1]
    exact ih
 exact this sc.names
theorem filter_look {f:PySem.Str → Bool} {x:PySem.Str}:∀ (l:List (PySem.Str × Nat)),(l.filter fun p => f p.1).lookup x = if f x then l.lookup x else none
 | [] => by simp
 | (n,i) :: r => by
  rw [List.filter_cons]
  by_cases hn:x = n
  ·subst hn
   by_cases hf:f x = true
   ·simp [hf,List.lookup_cons]
   ·simp only [hf,Bool.false_eq_true,if_false]
    rw [filter_look r];simp [hf]
  ·have h1:(x == n) = false:=by simpa using hn
   by_cases hf:f n = true
   ·simp only [hf,if_true,List.lookup_cons,h1];exact filter_look r
   ·simp only [hf,Bool.false_eq_true,if_false,List.lookup_cons,h1];exact filter_look r
structure FreeOk (sc:Scope) (y:PySem.Str) (K:List PySem.Str):Prop where
 fn:sc.kind = .function
 co:sc.isCoroutine = false
 nocell:∀ q ∈ sc.names,q.2 ≠ .cell
 one:∀ q ∈ sc.names,q.2 = .local → sc.names.lookup q.1 = some .local
 loc:sc.names.lookup y = some .local
 dbg:(y == ("__debug__" : PySem.Str)) = false
 free:∀ q ∈ sc.names,q.2 = .free → sc.names.lookup q.1 = some .free ∧ q.1 ∈ K
 glob:∀ q ∈ sc.names,q.2 = .globalImplicit → sc.names.lookup q.1 = some .globalImplicit
theorem freeOk_iff {sc:Scope} {y:PySem.Str} {K:List PySem.Str} (h:freeOk sc y K = true):FreeOk sc y K:=by
 unfold freeOk at h
 simp only [Bool.and_eq_true,List.all_eq_true,Bool.or_eq_true,bne_iff_ne,beq_iff_eq,ne_eq,Bool.not_eq_true'] at h
 obtain ⟨⟨⟨⟨⟨⟨⟨h1,h2⟩,h3⟩,h4⟩,h5⟩,h6⟩,h7⟩,h8⟩:=h
 refine ⟨h1,h2,h3,fun q hq e => (h4 q hq).resolve_left (fun z => z e),h5,h6,fun q hq e => ?_,fun q hq e => (h8 q hq).resolve_left (fun z => z e)⟩
 obtain ⟨a,b⟩:=(h7 q hq).resolve_left (fun z => z e)
 exact ⟨a,by simpa using b⟩
theorem comp_stat {sc:Scope} {y:PySem.Str} {v:Nat} {K:List PySem.Str} {Ca:Addr} (S:Stat penv G R N) (hK:KOk penv K) (hf:FreeOk sc y K) (hv:(R.map (·.2)).contains v = false) (hvN:v < N) (hC:188 ≤ Ca) (hCc:∀ x c,penv.cells.lookup x = some c → c ≠ Ca) :
  Stat (compEnvC sc (clOf penv.cells sc.names []) Ca penv) (gOf sc) ((y,v) :: rOf sc R) N:=by
 have hcl:∀ x c,(clOf penv.cells sc.names []).lookup x = some c → sc.names.lookup x = some .free ∧ penv.cells.lookup x = some c:=by
  intro x c h
  rw [clOf_look] at h
  split at h
  ·rename_i ha
   obtain ⟨q,hq,e⟩:=List.any_eq_true.mp ha
   simp only [Bool.and_eq_true,beq_iff_eq] at e
   obtain ⟨rfl,e2⟩:=e
   obtain ⟨f1,f2⟩:=hf.free q hq e2
   obtain ⟨_,c',hc'⟩:=hK _ f2
   rw [hc'] at h ⊢
   exact ⟨f1,h⟩
  ·exact (nS h).elim
 have hr:∀ x i,((y,v) :: rOf sc R).lookup x = some i → (x = y ∧ i = v) ∨ (x ≠ y ∧ sc.names.lookup x = some .free ∧ R.lookup x = some i):=by
  intro x i h
  rw [List.lookup_cons] at h
  by_cases hx:x = y
  ·subst hx
   rw [beq_self_eq_true] at h
   exact .inl ⟨rfl,(Option.some.inj h).symm⟩
  ·have h1:(x == y) = false:=by simpa using hx
   rw [h1] at h
   unfold rOf at h
   have h:(R.filter fun p => (fun z => sc.names.lookup z == some .free) p.1).lookup x = some i:=h
   rw [filter_look (f:=fun z => sc.names.lookup z == some .free)] at h
   split at h
   ·rename_i hq
    exact .inr ⟨hx,by simpa using hq,h⟩
   ·exact (nS h).elim
 have hmem:∀ (l:List (PySem.Str × Nat)) x i,l.lookup x = some i → i ∈ l.map (·.2):=by
  intro l x i h
  have:=mem_of_lookup h
  exact List.mem_map_of_mem (f:=(·.2)) this
 have hvn:∀ x i,R.lookup x = some i → i ≠ v:=fun x i h e => by
  have:=hmem R x i h
  rw [e] at this
  rw [List.contains_iff_mem.mpr this] at hv
  cases hv
 refine ⟨hf.fn,hf.co,S.glob,S.bi,hC,fun x hx => ?_,fun x i h => ?_,fun x c h => ?_,fun x z c h1 h2 => ?_,fun x z i h1 h2 => ?_,fun x i h => ?_,fun x i h => ?_⟩
 ·obtain ⟨q,hq,rfl⟩:=List.mem_map.mp hx
  rw [List.mem_filter] at hq
  have:=hf.glob q hq.1 (by simpa using hq.2)
  show (relabel sc penv).names.lookup q.1 = _
  rw [relabel_look,this];rfl
 ·rcases hr x i h with ⟨rfl,rfl⟩ | ⟨hx,h1,h2⟩
  ·left
   show (relabel sc penv).names.lookup x = _
   rw [relabel_look,hf.loc];rfl
  ·right
   obtain ⟨f1,f2⟩:=hf.free _ (mem_of_lookup h1) rfl
   obtain ⟨k1,c,k2⟩:=hK x f2
   refine ⟨?_,c,?_⟩
   ·show (relabel sc penv).names.lookup x = _
    rw [relabel_look,h1]
    simp [S.fn,k1]
   ·show (clOf penv.cells sc.names []).lookup x = _
    rw [clOf_look,if_pos (List.any_eq_true.mpr ⟨_,mem_of_lookup h1,by simp⟩),k2];rfl
 ·exact ⟨hCc x c (hcl x c h).2,(S.cl x c (hcl x c h).2).2⟩
 ·exact S.apart x z c (hcl x c h1).2 (hcl z c h2).2
 ·rcases hr x i h1 with ⟨rfl,rfl⟩ | ⟨hx,_,a⟩
  ·rcases hr z i h2 with ⟨rfl,_⟩ | ⟨_,_,b⟩
   ·rfl
   ·exact absurd rfl (hvn z i b)
  ·rcases hr z i h2 with ⟨rfl,rfl⟩ | ⟨_,_,b⟩
   ·exact absurd rfl (hvn x i a)
   ·exact S.inj x z i a b
 ·rcases hr x i h with ⟨rfl,rfl⟩ | ⟨_,_,a⟩
  ·exact hvN
  ·exact S.lt x i a
 ·rcases hr x i h with ⟨rfl,rfl⟩ | ⟨_,_,a⟩
  ·exact hf.dbg
  ·exact S.dbg x i a
end
end
section
noncomputable def compF (C:Calls) (n v:Nat) (ev:Ev) (cond:List T) (elt:Mine.E) (x:PV):Option (Option PV):=do
 let (ok,e) ← evTs C n (setS (Mine.vals ev) v (.val x)) true cond
 if ok then do
  let (y,_) ← evE C n e elt
  some (some y)
 else some none
theorem getS_vals {e:Ev} {i:Nat} {t:Slot} (h:getS (Mine.vals e) i = some t):getS e i = some t ∧ t.own = false:=by
 unfold getS Mine.vals at h
 rw [List.getElem?_map] at h
 unfold getS
 cases q:e[i]? with
 | none => rw [q] at h;exact (nS h).elim
 | some o =>
  rw [q] at h
  cases o with
  | none => exact (nS h).elim
  | some t' =>
   cases t' with
   | val p => cases h;exact ⟨rfl,rfl⟩
   | ownL l => exact (nS h).elim
   | ownD l => exact (nS h).elim
section
variable {w:World} {A:Around} {penv:Env} {G:List PySem.Str} {R:List (PySem.Str × Nat)} {N:Nat} {Z Z':Addr → Prop} {O:Nat → Addr} {ev ev':Ev} {s:Shared} {p:PV} {C:Calls} {d:Nat}
theorem comp_inv {sc:Scope} {y:PySem.Str} {v:Nat} {K:List PySem.Str} {Ca:Addr} {m:PySem.Str → Option Value} {u:Value} {x:PV} (S:Stat penv G R N) (hK:KOk penv K) (hf:FreeOk sc y K) (hv:(R.map (·.2)).contains v = false) (hvN:v < N) (hN:ev.length = N)
  (hC:188 ≤ Ca) (hCc:∀ x c,penv.cells.lookup x = some c → c ≠ Ca) (hCZ:Z Ca) (I:Inv w penv R Z O ev s.heap s.toks) (hm:s.heap.Ns Ca m) (hy:m y = some u) (hr:Rep w s.heap (XS Z penv O ev) s.toks u x) :
  Inv w (compEnvC sc (clOf penv.cells sc.names []) Ca penv) ((y,v) :: rOf sc R) (XS Z penv O ev) O (setS (Mine.vals ev) v (.val x)) s.heap s.toks ∧
  (∀ b,XS (XS Z penv O ev) (compEnvC sc (clOf penv.cells sc.names []) Ca penv) O (setS (Mine.vals ev) v (.val x)) b → XS Z penv O ev b):=by
 have Sc:=comp_stat S hK hf hv hvN hC hCc
 have hlen:(Mine.vals ev).length = ev.length:=by simp [Mine.vals]
 have hcl:∀ x c,(clOf penv.cells sc.names []).lookup x = some c → penv.cells.lookup x = some c ∧ sc.names.lookup x = some .free:=by
  intro x c h
  rw [clOf_look] at h
  split at h
  ·rename_i ha
   obtain ⟨q,hq,e⟩:=List.any_eq_true.mp ha
   simp only [Bool.and_eq_true,beq_iff_eq] at e
   obtain ⟨rfl,e2⟩:=e
   obtain ⟨f1,f2⟩:=hf.free q hq e2
   obtain ⟨_,c',hc'⟩:=hK _ f2
   rw [hc'] at h ⊢
   exact ⟨h,f1⟩
  ·exact (nS h).elim
 have noown:∀ i t,getS (setS (Mine.vals ev) v (.val x)) i = some t → t.own = false:=by
  intro i t h
  rw [getS_setS] at h
  split at h
  ·cases h;rfl
  ·exact (getS_vals h).2
 have hsub:∀ b,XS (XS Z penv O ev) (compEnvC sc (clOf penv.cells sc.names []) Ca penv) O (setS (Mine.vals ev) v (.val x)) b → XS Z penv O ev b:=by
  rintro b (q | q | q | ⟨z,q⟩ | ⟨i,t,hg,ho,_⟩)
  ·exact .inl q
  ·exact q
  ·subst q;exact xs_z hCZ
  ·exact xs_cell (hcl z b q).1
  ·rw [noown i t hg] at ho;exact (fT ho).elim
 refine ⟨⟨I.pos,I.base,⟨m,hm⟩,I.lx,fun x c h => I.cells x c (hcl x c h).1,fun z i t hz hg => ?_,fun i j t t' hi hti => ?_,fun i t hg ho => ?_⟩,hsub⟩
 ·rw [List.lookup_cons] at hz
  rw [getS_setS] at hg
  by_cases hzy:z = y
  ·subst hzy
   rw [beq_self_eq_true] at hz
   cases hz
   rw [if_pos ⟨rfl,by rw [hlen,hN];exact hvN⟩] at hg
   cases hg
   refine ⟨u,.inl ⟨?_,m,hm,hy⟩,hr.mono (fun _ _ _ e => e) (fun b q => .inl (hsub b q)) (Nat.le_refl _)⟩
   rcases Sc.kinds z v (by rw [List.lookup_cons,beq_self_eq_true]) with q | ⟨q,_⟩
   ·exact q
   ·have:(relabel sc penv).names.lookup z = some .cell:=q
    rw [relabel_look,hf.loc] at this;cases this
  ·have h1:(z == y) = false:=by simpa using hzy
   rw [h1] at hz
   have hz:(R.filter fun p => (fun q => sc.names.lookup q == some .free) p.1).lookup z = some i:=hz
   rw [filter_look (f:=fun q => sc.names.lookup q == some .free)] at hz
   split at hz
   ·rename_i hfree
    have hfree:sc.names.lookup z = some .free:=by simpa using hfree
    split at hg
    ·rename_i hiv
     exfalso
     have:=List.mem_map_of_mem (f:=(·.2)) (mem_of_lookup hz)
     rw [← hiv.1] at this
     rw [List.contains_iff_mem.mpr this] at hv
     cases hv
    ·obtain ⟨g1,g2⟩:=getS_vals hg
     obtain ⟨u',nm,r⟩:=I.vars z i t hz g1
     obtain ⟨f1,f2⟩:=hf.free _ (mem_of_lookup hfree) rfl
     obtain ⟨k1,c,k2⟩:=hK z f2
     refine ⟨u',.inr ⟨?_,c,?_,?_⟩,?_⟩
     ·show (relabel sc penv).names.lookup z = _
      rw [relabel_look,hfree]
      simp [S.fn,k1]
     ·show (clOf penv.cells sc.names []).lookup z = _
      rw [clOf_look,if_pos (List.any_eq_true.mpr ⟨_,mem_of_lookup hfree,by simp⟩),k2];rfl
     ·rcases nm with ⟨kk,_⟩ | ⟨_,c',hc',hcell⟩
      ·rw [k1] at kk;cases kk
      ·rw [k2] at hc';cases hc';exact hcell
     ·cases t with
      | val q =>
       have r:Rep w s.heap (XS Z penv O ev) s.toks u' q:=r
       exact r.mono (fun _ _ _ e => e) (fun b q => .inl (hsub b q)) (Nat.le_refl _)
      | ownL l => cases g2
      | ownD l => cases g2
   ·exact (nS hz).elim
 ·rw [noown i t hi] at hti;exact (fT hti).elim
 ·rw [noown i t hg] at ho;exact (fT ho).elim
noncomputable def testsT (env:Env) (ifs:List Expr) (b:Bool):Sem Bool:=forIn ifs b fun c r => if r = true then do let ok ← isTrue c env (eval c env);pure (ForInStep.yield ok) else pure (ForInStep.yield r)
theorem tests_false {env:Env}:∀ (ifs:List Expr),testsT env ifs false = pure false
 | [] => rfl
 | c :: r => by
  have:=tests_false (env:=env) r
  unfold testsT at this ⊢
  rw [List.forIn_cons]
  simpa using this
theorem tests_cons {env:Env} {c:Expr} {r:List Expr} {Q:Bool → Shared → Prop} {E:Value → Shared → Prop} (h:wpAny (model pw w) A (isTrue c env (eval c env)) (fun b s' => if b then wpAny (model pw w) A (testsT env r true) Q E s' else Q false s') E s) :
  wpAny (model pw w) A (testsT env (c :: r) true) Q E s:=by
 unfold testsT
 rw [List.forIn_cons]
 simp only [if_true]
 refine wpAny_bind (wpAny_bind (wpAny_mono h (fun b s' hb => ?_) fun _ _ e => e))
 cases b with
 | true =>
  rw [if_pos rfl] at hb
  exact wpAny_pure hb
 | false =>
  rw [if_neg Bool.false_ne_true] at hb
  refine wpAny_pure ?_
  show wpAny _ A (testsT env r false) Q E s'
  rw [tests_false]
  exact wpAny_pure hb
noncomputable def TT (Da Ca:Addr) (W:Addr → Prop) (b:Addr):Prop:=b = Da ∨ b = Ca ∨ W b
structure CompSt (w:World) (penv:Env) (R:List (PySem.Str × Nat)) (Z:Addr → Prop) (O:Nat → Addr) (ev:Ev) (s₀:Shared) (Da Ca:Addr) (rs:List PV) (W:Addr → Prop) (s:Shared):Prop where
 inv:Inv w penv R (fun b => Z b ∨ TT Da Ca W b) O ev s.heap s.toks
 ns:∃ m,s.heap.Ns Ca m
 acc:∃ ys,s.heap.PlainList Da (List.toArray ys) ∧ Reps w s.heap (XS (fun b => Z b ∨ TT Da Ca W b) penv O ev) s.toks ys rs
 chg:Chg noA noG s₀ s
 wf:∀ b,W b → s₀.heap.get? b = none
 wd:¬ W Da ∧ ¬ W Ca
theorem chg_two {s:Shared} {b₀:Addr} {h':Heap} {tk:Tok} (hs:Heap.SameBut b₀ s.heap h') (ht:s.toks ≤ tk):Chg (· = b₀) noG s { s with heap:=h',toks:=tk } :=
 ⟨fun b o hb e => hs.extBut b o hb e,fun _ _ _ e => e,fun _ _ e => .inl e,rfl,ht⟩
theorem xs_or {T:Addr → Prop} {b:Addr} (h:XS (fun a => Z a ∨ T a) penv O ev b):XS Z penv O ev b ∨ T b:=h.elim (fun q => .inl (.inl q)) fun h => h.elim (fun q => q.imp xs_z id) fun q => .inl (.inr (.inr q))
theorem xs_inl {T:Addr → Prop} {b:Addr} (h:XS Z penv O ev b):XS (fun a => Z a ∨ T a) penv O ev b:=h.imp id fun h => h.imp .inl id
structure CompCx (w:World) (penv:Env) (R:List (PySem.Str × Nat)) (Z:Addr → Prop) (O:Nat → Addr) (ev:Ev) (s₀:Shared) (Da Ca:Addr):Prop where
 I:Inv w penv R Z O ev s₀.heap s₀.toks
 D:s₀.heap.get? Da = none
 C:s₀.heap.get? Ca = none
 ne:Da ≠ Ca
section
variable {Da Ca:Addr} {s₀ s₁:Shared} {W W':Addr → Prop}
theorem CompCx.loc (X:CompCx w penv R Z O ev s₀ Da Ca) {b:Addr} (h:s₀.heap.get? b = none):penv.locals ≠ b:=by
 obtain ⟨m,o,_,_,e,_⟩:=X.I.ns
 exact fun q => by rw [q,h] at e;exact (nS e).elim
theorem CompCx.cell (X:CompCx w penv R Z O ev s₀ Da Ca) {x:PySem.Str} {c b:Addr} (hc:penv.cells.lookup x = some c) (h:s₀.heap.get? b = none):c ≠ b:=by
 obtain ⟨_,o,e,_⟩:=X.I.cells x c hc
 exact fun q => by rw [q,h] at e;exact (nS e).elim
theorem CompCx.low (X:CompCx w penv R Z O ev s₀ Da Ca) {b:Addr} (q:s₀.heap.get? b = none):188 ≤ b:=by
 rcases Nat.lt_or_ge b 188 with h | h
 ·rw [X.I.base b _ (kf_some h)] at q;exact (sN q).elim
 ·exact h
theorem CompCx.tt (X:CompCx w penv R Z O ev s₀ Da Ca) (hw:∀ b,W b → s₀.heap.get? b = none) {b:Addr} (h:TT Da Ca W b):s₀.heap.get? b = none:=by
 rcases h with rfl | rfl | h
 ·exact X.D
 ·exact X.C
 ·exact hw b h
theorem CompCx.held (X:CompCx w penv R Z O ev s₀ Da Ca) (hw:∀ b,W b → s₀.heap.get? b = none) {M:Addr → Prop} {Gm:Nat → Prop} (I:Inv w penv R (fun b => Z b ∨ TT Da Ca W b) O ev s.heap s.toks) (c:Chg M Gm s s₁) (hM:∀ b,M b → TT Da Ca W b) (hz:s.heap.objs.size ≤ s₁.heap.objs.size) :
  Inv w penv R (fun b => Z b ∨ TT Da Ca W b) O ev s₁.heap s₁.toks :=
 I.held (T:=TT Da Ca W) (fun b q => .inr q) (fun b h => X.low (X.tt hw h)) (fun h => X.loc (X.tt hw h) rfl) (fun x c hc h => X.cell hc (X.tt hw h) rfl) c (fun b q => .inl (hM b q)) hz
theorem Inv.pull {T T' M:Addr → Prop} {Gm:Nat → Prop} (I:Inv w penv R (fun a => Z a ∨ T a) O ev s.heap s.toks) (hT8:∀ b,T b → 188 ≤ b) (hTL:¬ T penv.locals) (hTc:∀ x c,penv.cells.lookup x = some c → ¬ T c) (c:Chg M Gm s s₁) (hM:∀ b,M b → T b)
  (hT:∀ b,T' b → T b ∨ s.heap.get? b = none) (hz:∀ b,T' b → T b ∨ b < s₁.heap.objs.size) (hs:s.heap.objs.size ≤ s₁.heap.objs.size):Inv w penv R (fun a => Z a ∨ T' a) O ev s₁.heap s₁.toks:=by
 have keep:∀ b o,¬ T b → s.heap.get? b = some o → s₁.heap.get? b = some o:=fun b o h e => c.heap b o (fun q => h (hM b q)) e
 exact I.chg (fun b o h e => keep b o (fun q => h (xs_z (.inr q))) e) (fun i t hg ho o e => keep _ o (fun q => (I.ne i t hg ho).2.2.2.2 (.inr q)) e) (fun b o h e => keep b o (fun q => absurd h (Nat.not_lt.mpr (hT8 b q))) e)
  (fun m ⟨o,es,ep,e,r⟩ => ⟨o,es,ep,keep _ _ hTL e,r⟩) (fun x c' v hc q => isCell_at q fun o e => keep _ o (hTc x c' hc) e) (fun b hb => hb.elim (fun q => .inl (.inl q)) fun q => (hT b q).imp .inr id)
  (fun b hb => hb.elim (fun q => Nat.lt_of_lt_of_le (I.zex b (.inl q)) hs) fun q => (hz b q).elim (fun q => Nat.lt_of_lt_of_le (I.zex b (.inr q)) hs) id) c.tk
theorem tt_imp {P:Addr → Prop} (h:∀ b,W' b → W b ∨ P b) (b:Addr) (q:TT Da Ca W' b):TT Da Ca W b ∨ P b:=q.elim (fun q => .inl (.inl q)) fun q => q.elim (fun q => .inl (.inr (.inl q))) fun q => (h b q).imp (fun q => .inr (.inr q)) id
theorem comp_pull (X:CompCx w penv R Z O ev s₀ Da Ca) {rs:List PV} {Gw:Nat → Prop} {u:Value} {x:PV} (st:CompSt w penv R Z O ev s₀ Da Ca rs W s) (hG:∀ i,Gw i → s₀.gens[i]? = none) (c1:Chg W Gw s s₁) (hWf:∀ b,W' b → W b ∨ s.heap.get? b = none)
  (hWz:∀ b,W' b → W b ∨ b < s₁.heap.objs.size) (hrep:∀ Y:Addr → Prop,(∀ b,Y b → XS Z penv O ev b ∨ s₀.heap.get? b = none) → (∀ b,Y b → b < s.heap.objs.size ∨ W' b) → Rep w s₁.heap Y s₁.toks u x) (hz:s.heap.objs.size ≤ s₁.heap.objs.size) :
  CompSt w penv R Z O ev s₀ Da Ca rs W' s₁ ∧ Rep w s₁.heap (XS (fun b => Z b ∨ TT Da Ca W' b) penv O ev) s₁.toks u x:=by
 obtain ⟨m,hm⟩:=st.ns
 obtain ⟨ys,⟨kk,hacc⟩,hreps⟩:=st.acc
 have wf':∀ b,W' b → s₀.heap.get? b = none:=fun b q => (hWf b q).elim (st.wf b) fun q => by
  cases e:s₀.heap.get? b with
  | none => rfl
  | some o => rw [st.chg.heap b o id e] at q;exact (sN q).elim
 have ex:∀ {b o},¬ W b → s.heap.get? b = some o → ¬ W' b:=fun h e q => (hWf _ q).elim h fun q => by rw [q] at e;exact (nS e).elim
 have tt:=fun b => tt_imp (Da:=Da) (Ca:=Ca) hWf b
 have sub:∀ b,XS (fun b => Z b ∨ TT Da Ca W' b) penv O ev b → XS (fun b => Z b ∨ TT Da Ca W b) penv O ev b ∨ s.heap.get? b = none:=fun b q => (xs_or q).elim (fun q => .inl (xs_inl q)) fun q => (tt b q).imp (fun q => xs_z (.inr q)) id
 refine ⟨⟨st.inv.pull (fun b h => X.low (X.tt st.wf h)) (fun h => X.loc (X.tt st.wf h) rfl) (fun x c hc h => X.cell hc (X.tt st.wf h) rfl) c1 (fun b q => .inr (.inr q)) tt (tt_imp hWz) hz,
  ⟨m,by obtain ⟨o,es,ep,e,r⟩:=hm;exact ⟨o,es,ep,c1.heap Ca _ st.wd.2 e,r⟩⟩,⟨ys,⟨kk,c1.heap Da _ st.wd.1 hacc⟩,hreps.mono (fun b o nx e => c1.heap b o (fun q => nx (xs_z (.inr (.inr (.inr q))))) e) sub c1.tk⟩,
  st.chg.trans c1 (fun b hb => .inr (st.wf b hb)) (fun i hi => .inr (hG i hi)),wf',ex st.wd.1 hacc,(by obtain ⟨o,es,ep,e,r⟩:=hm;exact ex st.wd.2 e)⟩,hrep _ (fun b q => (xs_or q).imp id fun q => X.tt wf' q) fun b q => ?_⟩
 rcases xs_or q with q | q | q | q
 ·exact .inl (st.inv.lx b (xs_inl q))
 ·exact .inl (st.inv.lx b (xs_z (.inr (.inl q))))
 ·exact .inl (st.inv.lx b (xs_z (.inr (.inr (.inl q)))))
 ·exact .inr q
theorem comp_over (X:CompCx w penv R Z O ev s₀ Da Ca) {rs rs':List PV} {it:Value} {Gw:Nat → Prop} {ps:List PV} (st:CompSt w penv R Z O ev s₀ Da Ca rs W s) (P:Pulls w A it Gw (XS Z penv O ev) s₀ ps W s) (c:Chg (fun b => b = Da ∨ b = Ca) noG s s₁)
  (z:s.heap.objs.size ≤ s₁.heap.objs.size) (hn:∃ m,s₁.heap.Ns Ca m) (ha:∃ ys,s₁.heap.PlainList Da (List.toArray ys) ∧ Reps w s₁.heap (XS (fun b => Z b ∨ TT Da Ca W b) penv O ev) s₁.toks ys rs') :
  CompSt w penv R Z O ev s₀ Da Ca rs' W s₁ ∧ Pulls w A it Gw (XS Z penv O ev) s₀ ps W s₁:=by
 have no:∀ b,b = Da ∨ b = Ca → s₀.heap.get? b = none:=fun b q => q.elim (fun q => q ▸ X.D) fun q => q ▸ X.C
 refine ⟨⟨X.held st.wf st.inv c (fun b q => q.imp id .inl) z,hn,ha,st.chg.trans c (fun b q => .inr (no b q)) (fun i q => q.elim),st.wf,st.wd⟩,P.later ⟨fun b o hb e => c.heap b o (fun q => ?_) e,fun i y e => c.gens i y id e,c.tk⟩⟩
 rcases hb with hb | hb | ⟨_,o',e'⟩
 ·exact q.elim (fun q => st.wd.1 (q ▸ hb)) fun q => st.wd.2 (q ▸ hb)
 ·exact absurd hb (Nat.not_lt.mpr (X.low (no b q)))
 ·rw [no b q] at e';first | exact (nS e').elim | exact (sN e').elim | exact (fT e').elim | cases e'
end
theorem bnd1 {α β:Type} {o:Option α} {f:α → Option β} {b:β} (h:o.bind f = some b):∃ a,o = some a ∧ f a = some b:=Option.bind_eq_some_iff.mp h
theorem bnd2 {α β:Type} {o:Option (α × Ev)} {f:α × Ev → Option β} {b:β} (h:o.bind f = some b):∃ x e,o = some (x,e) ∧ f (x,e) = some b:=let ⟨(x,e),h1,h2⟩:=bnd1 h;⟨x,e,h1,h2⟩
theorem compL_inv {f:PV → Option (Option PV)} {x:PV} {ps rest:List PV} (h:compL f (x :: ps) = some rest):∃ r l,f x = some r ∧ compL f ps = some l ∧ rest = r.toList ++ l:=by
 obtain ⟨r,h1,h⟩:=bnd1 h
 obtain ⟨l,h2,h⟩:=bnd1 h
 refine ⟨r,l,h1,h2,?_⟩
 cases r <;> exact (Option.some.inj h).symm
theorem compF_inv {n v:Nat} {cond:List T} {elt:Mine.E} {x:PV} {r:Option PV} (h:compF C n v ev cond elt x = some r):∃ ok e,evTs C n (setS (Mine.vals ev) v (.val x)) true cond = some (ok,e) ∧ if ok then ∃ q e',evE C n e elt = some (q,e') ∧ some q = r else none = r:=by
 obtain ⟨ok,e,h1,h⟩:=bnd2 h
 refine ⟨ok,e,h1,?_⟩
 cases ok with
 | false => exact Option.some.inj h
 | true =>
  obtain ⟨q,e',h2,h⟩:=bnd2 h
  exact ⟨q,e',h2,Option.some.inj h⟩
theorem comp_kind {sc:Scope} {y:PySem.Str} {v:Nat} {Ca:Addr} {cl:List (PySem.Str × Addr)} {GG:List PySem.Str} (Sc:Stat (compEnvC sc cl Ca penv) GG ((y,v) :: rOf sc R) N) (hl:sc.names.lookup y = some .local):(compEnvC sc cl Ca penv).kindOf y = some .local:=by
 rcases Sc.kinds y v (by rw [List.lookup_cons,beq_self_eq_true]) with q | ⟨q,_⟩
 ·exact q
 ·have:(relabel sc penv).names.lookup y = some .cell:=q
  rw [relabel_look,hl] at this;cases this
theorem comp_room {ys:List Value} {rs:List PV} {n cap:Nat} (h:ys.length = rs.length) (hc:rs.length + n + 1 ≤ cap) (hcap:cap < 100000):(List.toArray ys).size ≤ sizeLine:=by
 rw [List.size_toArray,show sizeLine = 16777216 from rfl,h];lia
theorem comp_cap {rs:List PV} {q:PV} {n cap:Nat} (hc:rs.length + n + 1 ≤ cap):(rs ++ [q]).length + n ≤ cap:=by rw [List.length_append,List.length_singleton];lia
noncomputable def CompAt (w:World) (A:Around) (C:Calls) (n v:Nat) (penv:Env) (R:List (PySem.Str × Nat)) (Z:Addr → Prop) (O:Nat → Addr) (ev:Ev) (s₀:Shared) (Da Ca:Addr) (it:Value) (Gw:Nat → Prop) (cond:List T) (elt:Mine.E) (all:List PV) (cap k:Nat) (s:Shared):Prop :=
 ∃ ps rest rs W,k = ps.length ∧ CompSt w penv R Z O ev s₀ Da Ca rs W s ∧ Pulls w A it Gw (XS Z penv O ev) s₀ ps W s ∧ compL (compF C n v ev cond elt) ps = some rest ∧ all = rs ++ rest ∧ rs.length + ps.length ≤ cap
theorem comp_loop {n v:Nat} {sc:Scope} {y:PySem.Str} {py pos:Pos} {K:List PySem.Str} {Da Ca:Addr} {it:Value} {Gw:Nat → Prop} {s₀:Shared} {ifs:List Expr} {cond:List T} {elt' iter:Expr} {elt:Mine.E} {all:List PV} {cap:Nat} {RR:Result → Shared → Prop} {cenv:Env} (he:cenv = compEnvC sc (clOf penv.cells sc.names []) Ca penv)
  (hA:AOk A d) (S:Stat penv G R N) (hK:KOk penv K) (hf:FreeOk sc y K) (hv:(R.map (·.2)).contains v = false) (hvN:v < N) (hN:ev.length = N) (X:CompCx w penv R Z O ev s₀ Da Ca) (hG:∀ i,Gw i → s₀.gens[i]? = none) (hcap:cap < 100000)
  (hT:∀ Zc s x ok e',Inv w cenv ((y,v) :: rOf sc R) Zc O (setS (Mine.vals ev) v (.val x)) s.heap s.toks → evTs C n (setS (Mine.vals ev) v (.val x)) true cond = some (ok,e') →
   e'.length = N ∧ SndB w A cenv ((y,v) :: rOf sc R) Zc O s (testsT cenv ifs true) ok e')
  (hE:∀ Zc s e₁ q e',e₁.length = N → Inv w cenv ((y,v) :: rOf sc R) Zc O e₁ s.heap s.toks → evE C n e₁ elt = some (q,e') →
   SndE w A cenv ((y,v) :: rOf sc R) Zc O s (eval elt' cenv) q e')
  (hR:∀ W s,CompSt w penv R Z O ev s₀ Da Ca all W s → RR (.ok .next) s) :
  ∀ (s:Shared) (ps rest rs:List PV) (W:Addr → Prop),CompSt w penv R Z O ev s₀ Da Ca rs W s → Pulls w A it Gw (XS Z penv O ev) s₀ ps W s → compL (compF C n v ev cond elt) ps = some rest → all = rs ++ rest → rs.length + ps.length ≤ cap →
   codeAny (model pw w) A (.compLoop (.ListComp elt' [⟨.Name y py,iter,ifs,0⟩] sc pos) 0 it (.ref Da) cenv) RR s:=by
 intro s ps rest rs W st hpl hc hall hcp
 have hC8:=X.low X.C
 have Sc:Stat cenv (gOf sc) ((y,v) :: rOf sc R) N:=he ▸ comp_stat S hK hf hv hvN hC8 (fun x c h => X.cell h X.C)
 refine codeAny_compLoop_tests (CompAt w A C n v penv R Z O ev s₀ Da Ca it Gw cond elt all cap) ?_ ps.length ⟨ps,rest,rs,W,rfl,st,hpl,hc,hall,hcp⟩
 clear st hpl hc hall hcp
 rintro k s ⟨ps,rest,rs,W,rfl,st,hpl,hc,rfl,hcp⟩
 cases ps with
 | nil =>
  cases hc
  obtain ⟨m,hm⟩:=st.ns
  obtain ⟨ys,⟨kk,hacc⟩,hreps⟩:=st.acc
  refine wpAny_grow (hpl s _ _ (Later.refl s) fun s' c hz _ => ?_)
  rw [List.append_nil] at hR
  exact hR W s' ⟨X.held st.wf st.inv c (fun b q => .inr (.inr q)) hz,⟨m,hm.at' fun o e => c.heap Ca o st.wd.2 e⟩,⟨ys,⟨kk,c.heap Da _ st.wd.1 hacc⟩,hreps.held c fun b q => .inl (xs_z (.inr (.inr (.inr q))))⟩,st.chg.trans c (fun b hb => .inr (st.wf b hb)) (fun i hi => .inr (hG i hi)),st.wf,st.wd⟩
 | cons x ps =>
  refine wpAny_grow (hpl s _ _ (Later.refl s) fun u s₁ W' c1 _ hWf hWz hrep _ hpl1 hz1 _ => ?_)
  obtain ⟨st1,hrep1⟩:=comp_pull X st hG c1 hWf hWz hrep hz1
  clear st hpl c1 hWf hWz hrep hz1
  obtain ⟨m1,hm1⟩:=st1.ns
  obtain ⟨ys,⟨kk,hacc⟩,hreps1⟩:=st1.acc
  refine wpAny_assign_Name (wpAny_storeName_local (env:=cenv) (by rw [he] at Sc ⊢;exact comp_kind Sc hf.loc) (by rw [he];exact hm1) (fun h2 hn2 hs2 => ?_) (by rw [Sc.fn];rfl))
  have hl:cenv.locals = Ca:=by rw [he];rfl
  rw [hl] at hn2 hs2
  have c2:=chg_two (s:=s₁) (tk:=s₁.toks + 1) hs2 (Nat.le_succ _)
  have hTT:∀ b,b = Ca → TT Da Ca W' b:=fun b q => .inr (.inl q)
  have hTX:∀ b,b = Ca → XS (fun b => Z b ∨ TT Da Ca W' b) penv O ev b ∨ s₁.heap.get? b = none:=fun b q => .inl (xs_z (.inr (hTT b q)))
  have Ic:=(comp_inv (s:={ s₁ with heap:=h2,toks:=s₁.toks + 1 }) (m:=fun z => if z = y then some u else m1 z) S hK hf hv hvN hN hC8 (fun x c h => X.cell h X.C) (.inr (hTT Ca rfl)) (X.held (s₁:={ s₁ with heap:=h2,toks:=s₁.toks + 1 }) st1.wf st1.inv c2 hTT (Nat.le_of_eq hs2.1.symm)) hn2 (by simp) (hrep1.held c2 hTX)).1
  rw [← he] at Ic
  obtain ⟨r,l,hfx,hrest,rfl⟩:=compL_inv hc
  obtain ⟨ok,e',hev,hfx⟩:=compF_inv hfx
  obtain ⟨hlen',sT⟩:=hT _ _ x ok e' Ic hev
  have hcp':rs.length + ps.length + 1 ≤ cap:=hcp
  refine sT _ _ fun s₃ X3 z3 Ic3 => ?_
  have c3:Chg (· = Ca) noG s₁ s₃:=c2.trans (hl ▸ X3.chg) (fun b q => .inl q) (fun i q => q.elim)
  have z13:s₁.heap.objs.size ≤ s₃.heap.objs.size:=Nat.le_trans (Nat.le_of_eq hs2.1.symm) z3
  have n3:s₃.heap.Ns Ca _:=hl ▸ X3.ns _ (hl.symm ▸ hn2)
  cases ok with
  | false =>
   obtain rfl:none = r:=hfx
   rw [if_neg Bool.false_ne_true]
   obtain ⟨st',pl'⟩:=comp_over X st1 hpl1 (c3.mono (fun b q => .inl (.inr q)) fun i q => q.elim) z13 ⟨_,n3⟩ ⟨ys,⟨kk,c3.heap Da _ X.ne hacc⟩,hreps1.held c3 hTX⟩
   exact ⟨ps.length,Nat.lt_succ_self _,ps,_,rs,W',rfl,st',pl',hrest,rfl,Nat.le_of_succ_le hcp'⟩
  | true =>
   obtain ⟨q,e'',hev2,rfl⟩:=hfx
   rw [if_pos rfl]
   refine hE _ s₃ e' q e'' hlen' Ic3 hev2 _ _ fun s₄ v4 X4 z4 Ic4 r4 => ?_
   have c4:Chg (· = Ca) noG s₁ s₄:=c3.trans (hl ▸ X4.chg) (fun b q => .inl q) (fun i q => q.elim)
   have r4':Rep w s₄.heap (XS (fun b => Z b ∨ TT Da Ca W' b) penv O ev) s₄.toks v4 q:=r4.mono (fun _ _ _ e => e) (fun b hb => .inl (xs_z hb)) (Nat.le_refl _)
   have hreps4:=hreps1.held c4 hTX
   refine wpAny_list_append_plain ⟨kk,c4.heap Da _ X.ne hacc⟩ (fun h5 hl5 hs5 => ?_) (comp_room hreps4.length hcp' hcap)
   have c5:=chg_two (s:=s₄) (tk:=s₄.toks) hs5 (Nat.le_refl _)
   obtain ⟨st',pl'⟩:=comp_over (s₁:={ s₄ with heap:=h5 }) (rs':=rs ++ [q]) X st1 hpl1 ((c4.mono (W':=fun b => b = Da ∨ b = Ca) (Gw':=noG) (fun b q => .inl (.inr q)) fun i q => q.elim).trans c5 (fun b q => .inl (.inl q)) fun i q => q.elim) (Nat.le_trans z13 (Nat.le_trans z4 (Nat.le_of_eq hs5.1.symm))) ⟨_,(hl ▸ X4.ns _ (hl.symm ▸ n3)).sameBut hs5 X.ne.symm⟩
    ⟨ys ++ [v4],by rw [← List.push_toArray];exact hl5,(hreps4.append (.cons r4' .nil)).held c5 fun b q => .inl (xs_z (.inr (.inl q)))⟩
   exact ⟨ps.length,Nat.lt_succ_self _,ps,l,rs ++ [q],W',rfl,st',pl',hrest,(List.append_assoc ..).symm,comp_cap hcp'⟩
end
end
section
section
variable {w:World} {A:Around} {penv:Env} {G:List PySem.Str} {R:List (PySem.Str × Nat)} {N:Nat} {Z:Addr → Prop} {O:Nat → Addr} {ev ev':Ev} {s:Shared} {p:PV} {C:Calls} {d:Nat}
theorem fold_plain {x:Expr} {env:Env} (h:notSet x = true):∀ v,foldedSetIterable x env v = pure v:=by
 intro v
 cases x <;> first | rfl | (exfalso;revert h;exact Bool.false_ne_true)
theorem comp_run {n v:Nat} {sc:Scope} {y:PySem.Str} {py pos:Pos} {K:List PySem.Str} {it:Value} {s₀ s₂:Shared} {ifs:List Expr} {cond:List T} {elt' iter:Expr} {elt:Mine.E} {its all:List PV} {RR:Value → Addr → Result → Shared → Prop} {E:Value → Shared → Prop}
  (hA:AOk A d) (S:Stat penv G R N) (hK:KOk penv K) (hf:FreeOk sc y K) (hv:(R.map (·.2)).contains v = false) (hvN:v < N) (hN:ev.length = N) (I₀:Inv w penv R Z O ev s₀.heap s₀.toks)
  (hi:Iters w A (XS Z penv O ev) s₀ its it s₂) (hz:s₀.heap.objs.size ≤ s₂.heap.objs.size) (hlim:its.length < 100000) (hc:compL (compF C n v ev cond elt) its = some all)
  (hT:∀ Ca Zc s x ok e',Stat (compEnvC sc (clOf penv.cells sc.names []) Ca penv) (gOf sc) ((y,v) :: rOf sc R) N → Inv w (compEnvC sc (clOf penv.cells sc.names []) Ca penv) ((y,v) :: rOf sc R) Zc O (setS (Mine.vals ev) v (.val x)) s.heap s.toks → evTs C n (setS (Mine.vals ev) v (.val x)) true cond = some (ok,e') →
   e'.length = N ∧ SndB w A (compEnvC sc (clOf penv.cells sc.names []) Ca penv) ((y,v) :: rOf sc R) Zc O s (testsT (compEnvC sc (clOf penv.cells sc.names []) Ca penv) ifs true) ok e')
  (hE:∀ Ca Zc s e₁ q e',Stat (compEnvC sc (clOf penv.cells sc.names []) Ca penv) (gOf sc) ((y,v) :: rOf sc R) N → e₁.length = N → Inv w (compEnvC sc (clOf penv.cells sc.names []) Ca penv) ((y,v) :: rOf sc R) Zc O e₁ s.heap s.toks → evE C n e₁ elt = some (q,e') →
   SndE w A (compEnvC sc (clOf penv.cells sc.names []) Ca penv) ((y,v) :: rOf sc R) Zc O s (eval elt' (compEnvC sc (clOf penv.cells sc.names []) Ca penv)) q e')
  (hR:∀ Da Ca W s,s₂.heap.objs.size ≤ Da → s₂.heap.objs.size ≤ Ca → Da ≠ Ca → CompSt w penv R Z O ev s₀ Da Ca all W s → RR (.ref Da) Ca (.ok .next) s) :
  wpAny (model pw w) A (newList []) (fun acc s₃ => wpAny (model pw w) A (newFunctionEnv sc penv.globals (clOf penv.cells sc.names []) [] penv.qual none .none (some penv)) (fun cenv s₄ =>
   codeAny (model pw w) A (.compStart (.ListComp elt' [⟨.Name y py,iter,ifs,0⟩] sc pos) 0 it acc { cenv with scope:=relabel sc penv }) (RR acc cenv.locals) s₄) E s₃) E s₂:=by
 obtain ⟨W,Gw,c02,hW,hG,hpl,hself⟩:=hi
 refine wpAny_newObj_type (wpAny_newFunctionEnv hf.nocell (by intro y hy;simp at hy) (fun h₁ hns₁ hsb₁ => ?_) hf.fn)
 dsimp only at hns₁ hsb₁ ⊢
 generalize hH2:s₂.heap.push { cls:=.type "list",dict:=none,data:=.seq ([]:List Value).toArray } = H2 at hns₁ hsb₁ ⊢
 have hCa:H2.objs.size = s₂.heap.objs.size + 1:=by rw [← hH2,Heap.size_push]
 have hsz1:h₁.objs.size = s₂.heap.objs.size + 2:=by rw [hsb₁.1,Heap.size_push,hCa]
 have hDC:s₂.heap.objs.size ≠ H2.objs.size:=by rw [hCa];exact Nat.ne_of_lt (Nat.lt_succ_self _)
 have low8:188 ≤ s₂.heap.objs.size:=Nat.le_trans (kf_size I₀.base) hz
 have none0:∀ b,s₂.heap.objs.size ≤ b → s₀.heap.get? b = none:=fun b hb => Heap.get?_none_of_le (Nat.le_trans hz hb)
 have old:∀ b o,s₂.heap.get? b = some o → h₁.get? b = some o:=fun b o e => hsb₁.extBut b o (by rw [hCa];exact Nat.ne_of_lt (Nat.lt_succ_of_lt (Heap.lt_size e))) (Heap.get?_push_of_some _ (hH2 ▸ Heap.get?_push_of_some _ e))
 have c23:Chg noA noG s₂ { s₂ with heap:=h₁,toks:=s₂.toks + ([]:List (PySem.Str × Value)).length }:=⟨fun b o _ e => old b o e,fun _ _ _ e => e,fun _ _ e => .inl e,rfl,Nat.le_add_right _ _⟩
 have c03:=c02.trans c23 (fun _ q => q.elim) (fun _ q => q.elim)
 have hlt:∀ b,TT s₂.heap.objs.size H2.objs.size W b → b < h₁.objs.size:=fun b hb => by
  rw [hsz1]
  rcases hb with rfl | rfl | hb
  ·exact Nat.lt_succ_of_lt (Nat.lt_succ_self _)
  ·rw [hCa];exact Nat.lt_succ_self _
  ·exact Nat.lt_succ_of_lt (Nat.lt_succ_of_lt (hW b hb).2)
 have exC:∀ x c,penv.cells.lookup x = some c → c ≠ H2.objs.size:=fun x c h => by
  obtain ⟨_,o,e,_⟩:=I₀.cells x c h
  intro q
  rw [q,none0 _ (by rw [hCa];exact Nat.le_succ _)] at e;exact (nS e).elim
 have hC8:188 ≤ H2.objs.size:=by rw [hCa];exact Nat.le_succ_of_le low8
 have Sc:=comp_stat S hK hf hv hvN hC8 exC
 have st:CompSt w penv R Z O ev s₀ s₂.heap.objs.size H2.objs.size [] W { s₂ with heap:=h₁,toks:=s₂.toks + ([]:List (PySem.Str × Value)).length }:=by
  refine ⟨I₀.more (TT s₂.heap.objs.size H2.objs.size W) (fun b hb => ?_) c03 (by show _ ≤ h₁.objs.size;rw [hsz1];exact Nat.le_trans hz (Nat.le_add_right _ _)) hlt,⟨_,hns₁⟩,⟨[],⟨0,hsb₁.extBut _ _ hDC (Heap.get?_push_of_some _ (hH2 ▸ Heap.get?_push_size _ rfl))⟩,.nil⟩,c03,fun b hb => (hW b hb).1,fun q => Nat.lt_irrefl _ (hW _ q).2,fun q => ?_⟩
  ·rcases hb with rfl | rfl | hb
   ·exact none0 _ (Nat.le_refl _)
   ·exact none0 _ (by rw [hCa];exact Nat.le_succ _)
   ·exact (hW b hb).1
  ·have:=(hW _ q).2;rw [hCa] at this;exact absurd this (Nat.not_lt.mpr (Nat.le_succ _))
 have lat:Later (KW (XS Z penv O ev) s₀ W) s₂ { s₂ with heap:=h₁,toks:=s₂.toks + ([]:List (PySem.Str × Value)).length }:=⟨fun b o _ e => old b o e,fun _ _ e => e,Nat.le_add_right _ _⟩
 have loop:=comp_loop (w:=w) (A:=A) (K:=K) (py:=py) (pos:=pos) (iter:=iter) (Da:=s₂.heap.objs.size) (Ca:=H2.objs.size) (it:=it) (Gw:=Gw) (cap:=its.length) (RR:=RR (.ref s₂.heap.objs.size) H2.objs.size) (all:=all) rfl hA S hK hf hv hvN hN ⟨I₀,none0 _ (Nat.le_refl _),none0 _ (by rw [hCa];exact Nat.le_succ _),hDC⟩ hG hlim
  (fun Zc s x ok e' I h => hT _ Zc s x ok e' Sc I h) (fun Zc s e₁ q e' hl I h => hE _ Zc s e₁ q e' Sc hl I h) (fun W s st => hR _ _ W s (Nat.le_refl _) (by rw [hCa];exact Nat.le_succ _) hDC st)
  _ its all [] W st (hpl.later lat) hc (by simp) (by simp)
 exact codeAny_compStart_list loop (hself _ _ _ lat loop)
theorem freeOk_names {sc:Scope} {y:PySem.Str} {K:List PySem.Str} (hf:FreeOk sc y K):∀ x ∈ sc.names,x.2 = .local → sc.names.lookup x.1 = some .local:=fun x hx e => hf.one x hx e
theorem freeOk_clos {sc:Scope} {y:PySem.Str} {K:List PySem.Str} (hf:FreeOk sc y K) (hK:KOk penv K):closureFor sc penv = pure (clOf penv.cells sc.names []):=closure_is fun q hq e => (hK _ (hf.free q hq e).2).2
theorem comp_done {s₀ s₃:Shared} {Da Ca:Addr} {W:Addr → Prop} {all:List PV} {h':Heap} (S:Stat penv G R N) (I₀:Inv w penv R Z O ev s₀.heap s₀.toks) (hD:s₀.heap.objs.size ≤ Da) (hC:s₀.heap.objs.size ≤ Ca) (hDC:Da ≠ Ca) (st:CompSt w penv R Z O ev s₀ Da Ca all W s₃) (hs:Heap.SameBut Ca s₃.heap h') :
  Chg noA noG s₀ { s₃ with heap:=h' } ∧ Inv w penv R Z O ev h' s₃.toks ∧ Rep w h' (XS Z penv O ev) s₃.toks (.ref Da) (.list all):=by
 have c:=chg_two (tk:=s₃.toks) hs (Nat.le_refl _)
 have none0:∀ b,s₀.heap.objs.size ≤ b → s₀.heap.get? b = none:=fun b hb => Heap.get?_none_of_le hb
 have low:∀ b,s₀.heap.get? b = none → 188 ≤ b:=fun b q => by
  rcases Nat.lt_or_ge b 188 with h | h
  ·rw [I₀.base b _ (kf_some h)] at q;exact (sN q).elim
  ·exact h
 have I1:Inv w penv R (fun b => Z b ∨ TT Da Ca W b) O ev h' s₃.toks:=st.inv.held (T:=TT Da Ca W) (s':={ s₃ with heap:=h' }) (fun b q => .inr q) (fun b hb => by
   rcases hb with rfl | rfl | hb
   ·exact low _ (none0 _ hD)
   ·exact low _ (none0 _ hC)
   ·exact low b (st.wf b hb)) (fun hb => by
   obtain ⟨m,o,_,_,e,_⟩:=I₀.ns
   have:s₀.heap.get? penv.locals = none:=by
    rcases hb with hb | hb | hb
    ·rw [hb];exact none0 _ hD
    ·rw [hb];exact none0 _ hC
    ·exact st.wf _ hb
   rw [this] at e;cases e) (fun x c hx hb => by
   obtain ⟨_,o,e,_⟩:=I₀.cells x c hx
   have:s₀.heap.get? c = none:=by
    rcases hb with hb | hb | hb
    ·rw [hb];exact none0 _ hD
    ·rw [hb];exact none0 _ hC
    ·exact st.wf _ hb
   rw [this] at e;cases e) c (fun b q => .inl (.inr (.inl q))) (Nat.le_of_eq hs.1.symm)
 obtain ⟨ys,⟨kk,hacc⟩,hr⟩:=st.acc
 refine ⟨st.chg.trans c (fun b q => .inr (q ▸ none0 _ hC)) (fun i q => q.elim),I1.less (s:={ s₃ with heap:=h' }) fun _ => .inl,.list ⟨_,hs.extBut _ _ hDC hacc,rfl,kk,rfl⟩ (fun q => absurd (I₀.lx Da q) (Nat.not_lt.mpr hD)) ?_⟩
 refine Reps.mono (fun b o nx e => hs.extBut b o (fun q => nx (xs_z (.inr (.inr (.inl q))))) e) (fun b q => .inl ?_) (Nat.le_refl _) hr
 rcases q with q | q | q | q | q
 ·exact .inl q
 ·exact xs_z (.inl q)
 ·exact .inr (.inr (.inl q))
 ·exact .inr (.inr (.inr (.inl q)))
 ·exact .inr (.inr (.inr (.inr q)))
end
end
section
theorem setS_self {e:Ev} {i:Nat} {t:Slot} (h:getS e i = some t):setS e i t = e:=by
 unfold getS at h
 unfold setS
 obtain ⟨o,ho,h⟩:∃ o,e[i]? = some o ∧ o = some t:=by
  cases q:e[i]? with
  | none => rw [q] at h;exact (nS h).elim
  | some o => rw [q] at h;exact ⟨o,rfl,h⟩
 subst h
 obtain ⟨hi,he⟩:=List.getElem?_eq_some_iff.mp ho
 rw [← he];exact List.set_getElem_self hi
section
variable {C:Calls} {n:Nat} {ev ev':Ev} {p:PV} {α β:Type}
theorem som {a b:α} {c d:β} (h:some (a,c) = some (b,d)):a = b ∧ c = d:=Prod.mk.inj (Option.some.inj h)
noncomputable def EvE (C:Calls) (n:Nat) (ev:Ev) (p:PV) (ev':Ev):E → Prop
 | .none => .none = p ∧ ev = ev'
 | .bool b => .bool b = p ∧ ev = ev'
 | .int i => .int i = p ∧ ev = ev'
 | .flt u => .flt u = p ∧ ev = ev'
 | .str s => .str s = p ∧ ev = ev'
 | .nt => .int 256 = p ∧ ev = ev'
 | .gl g => .gl g = p ∧ ev = ev'
 | .var i => ∃ t,getS ev i = some t ∧ froz t = p ∧ setS ev i (.val (froz t)) = ev'
 | .bin op a b => ∃ x e1 y,evE C n ev a = some (x,e1) ∧ evE C n e1 b = some (y,ev') ∧ binop op x y = some p
 | .cmp op a b => ∃ x e1 y q,evE C n ev a = some (x,e1) ∧ evE C n e1 b = some (y,ev') ∧ cmpop op x y = some q ∧ .bool q = p
 | .notv a => ∃ b,evE C n ev a = some (.bool b,ev') ∧ .bool (!b) = p
 | .ife t a b => ∃ c e1,evT C n ev t = some (c,e1) ∧ evE C n e1 (if c then a else b) = some (p,ev')
 | .idx a i => ∃ x e1 y,evE C n ev a = some (x,e1) ∧ evE C n e1 i = some (y,ev') ∧ idxop x y = some p
 | .idxv x i => ∃ t y,getS ev x = some t ∧ evE C n ev i = some (y,ev') ∧ idxop (froz t) y = some p
 | .slc a lo hi => ∃ x e1 l e2 h,evE C n ev a = some (x,e1) ∧ evO C n e1 lo = some (l,e2) ∧ evO C n e2 hi = some (h,ev') ∧ slcop x l h = some p
 | .tup l => ∃ ps,evL C n ev l = some (ps,ev') ∧ .tup ps = p
 | .lst l => ∃ ps,evL C n ev l = some (ps,ev') ∧ .list ps = p
 | .call f l none => ∃ ps,evL C n ev l = some (ps,ev') ∧ C f (ps.map .val) = some p
 | .call f l (some d) => ∃ ps e1 kv,evL C n ev l = some (ps,e1) ∧ evD C n e1 d = some (kv,ev') ∧ C f (ps.map .val ++ [.ownD kv]) = some p
 | .bi f l => ∃ ps,evL C n ev l = some (ps,ev') ∧ biop f ps = some p
 | .getv x a b => ∃ t l i e1 u,getS ev x = some t ∧ froz t = .dict l ∧ evE C n ev a = some (.int i,e1) ∧ evE C n e1 b = some (u,ev') ∧ (lookI i l).getD u = p
 | .sumv x => ∃ t l q,getS ev x = some t ∧ froz t = .dict l ∧ sumI (l.map (·.2)) 0 = some q ∧ .int q = p ∧ ev = ev'
 | .comp elt v it cond => ∃ its all,v < ev.length ∧ evI C n ev it = some (its,ev') ∧ compL (compF C n v ev' cond elt) its = some all ∧ lim its.length = true ∧ .list all = p
theorem xVf {e:Ev} {i:Nat} {s:Slot} (h:getS e i = some s):evE C (n + 1) e (.var i) = some (froz s,setS e i (.val (froz s))):=by
 show (match getS e i with | some (.val v) => some (v,e) | some s => some (froz s,setS e i (.val (froz s))) | none => none) = _
 rw [h]
 cases s with
 | val v => exact congrArg (fun q => some (v,q)) (setS_self h).symm
 | ownL l => rfl
 | ownD l => rfl
theorem xVn {e:Ev} {i:Nat} (h:getS e i = none):evE C (n + 1) e (.var i) = none:=by
 show (match getS e i with | some (.val v) => some (v,e) | some s => some (froz s,setS e i (.val (froz s))) | none => none) = _
 rw [h]
theorem var_inv {i:Nat} (h:evE C (n + 1) ev (.var i) = some (p,ev')):EvE C n ev p ev' (.var i):=by
 cases ht:getS ev i with
 | none => exact (nn ((xVn ht).symm.trans h)).elim
 | some t =>
  obtain ⟨h1,h2⟩:=som ((xVf ht).symm.trans h)
  exact ⟨t,ht,h1,h2⟩
theorem dict_inv {z k:PV} {f:List (Int × PV) → Int → Option α} {r:α} (h:(match z,k with | .dict l,.int i => f l i | _,_ => none) = some r):∃ l i,z = .dict l ∧ k = .int i ∧ f l i = some r:=by
 cases z <;> first | exact (nn h).elim | skip
 cases k <;> first | exact (nn h).elim | skip
 exact ⟨_,_,rfl,rfl,h⟩
theorem dict_inv1 {z:PV} {f:List (Int × PV) → Option α} {r:α} (h:(match z with | .dict l => f l | _ => none) = some r):∃ l,z = .dict l ∧ f l = some r:=by
 cases z <;> first | exact (nn h).elim | skip
 exact ⟨_,rfl,h⟩
theorem getv_inv {x:Nat} {a b:Mine.E} (h:evE C (n + 1) ev (.getv x a b) = some (p,ev')):EvE C n ev p ev' (.getv x a b):=by
 obtain ⟨t,h0,h⟩:=bnd1 h
 obtain ⟨k,e1,h1,h⟩:=bnd2 h
 obtain ⟨u,e2,h2,h⟩:=bnd2 h
 obtain ⟨l,i,hz,rfl,h9⟩:=dict_inv (f:=fun l i => some ((lookI i l).getD u,e2)) h
 obtain ⟨rfl,rfl⟩:=som h9
 exact ⟨t,l,i,e1,u,h0,hz,h1,h2,rfl⟩
theorem sumv_inv {x:Nat} (h:evE C (n + 1) ev (.sumv x) = some (p,ev')):EvE C n ev p ev' (.sumv x):=by
 obtain ⟨t,h0,h⟩:=bnd1 h
 obtain ⟨l,hz,h⟩:=dict_inv1 (f:=fun l => (sumI (l.map (·.2)) 0).bind fun q => some (PV.int q,ev)) h
 obtain ⟨q,hq,h⟩:=bnd1 h
 obtain ⟨rfl,rfl⟩:=som h
 exact ⟨t,l,q,h0,hz,hq,rfl,rfl⟩
theorem b3 {γ:Type} {o:Option (α × Ev)} (f:Ev → Option (β × Ev)) (g:α → β → Option γ) {p:γ} (h:(o.bind fun q => (f q.2).bind fun r => (g q.1 r.1).bind fun z => some (z,r.2)) = some (p,ev')):∃ x e1 y,o = some (x,e1) ∧ f e1 = some (y,ev') ∧ g x y = some p:=by
 obtain ⟨x,e1,h1,h⟩:=bnd2 h
 obtain ⟨y,e2,h2,h⟩:=bnd2 h
 obtain ⟨z,h3,h⟩:=bnd1 h
 obtain ⟨rfl,rfl⟩:=som h
 exact ⟨x,e1,y,h1,h2,h3⟩
theorem b1 {γ:Type} {o:Option (α × Ev)} (g:α → Option γ) {p:γ} (h:(o.bind fun q => (g q.1).bind fun z => some (z,q.2)) = some (p,ev')):∃ x,o = some (x,ev') ∧ g x = some p:=by
 obtain ⟨x,e1,h1,h⟩:=bnd2 h
 obtain ⟨z,h3,h⟩:=bnd1 h
 obtain ⟨rfl,rfl⟩:=som h
 exact ⟨x,h1,h3⟩
theorem b0 {γ:Type} {o:Option (α × Ev)} (g:α → γ) {p:γ} (h:(o.bind fun q => some (g q.1,q.2)) = some (p,ev')):∃ x,o = some (x,ev') ∧ g x = p:=by
 obtain ⟨x,e1,h1,h⟩:=bnd2 h
 obtain ⟨rfl,rfl⟩:=som h
 exact ⟨x,h1,rfl⟩
theorem some_map {γ:Type} {o:Option β} {g:β → γ} {p:γ} (h:(o.bind fun z => some (g z)) = some p):∃ q,o = some q ∧ g q = p:=by
 obtain ⟨z,h3,h⟩:=bnd1 h
 exact ⟨z,h3,Option.some.inj h⟩
theorem evE_inv {x:Mine.E} (h:evE C (n + 1) ev x = some (p,ev')):EvE C n ev p ev' x:=by
 cases x with
 | none => exact som h
 | bool => exact som h
 | int => exact som h
 | flt => exact som h
 | str => exact som h
 | nt => exact som h
 | gl => exact som h
 | var => exact var_inv h
 | getv => exact getv_inv h
 | sumv => exact sumv_inv h
 | bin op a b => exact b3 (fun e => evE C n e b) (binop op) h
 | cmp =>
  obtain ⟨x,e1,h1,h⟩:=bnd2 h
  obtain ⟨y,e2,h2,h⟩:=bnd2 h
  obtain ⟨z,h3,h⟩:=bnd1 h
  obtain ⟨rfl,rfl⟩:=som h
  exact ⟨x,e1,y,z,h1,h2,h3,rfl⟩
 | notv =>
  obtain ⟨x,e1,h1,h⟩:=bnd2 h
  cases x <;> first | exact (nn h).elim | skip
  obtain ⟨rfl,rfl⟩:=som h
  exact ⟨_,h1,rfl⟩
 | ife =>
  obtain ⟨x,e1,h1,h⟩:=bnd2 h
  refine ⟨x,e1,h1,?_⟩
  cases x <;> exact h
 | idx a b => exact b3 (fun e => evE C n e b) idxop h
 | idxv =>
  obtain ⟨x,h1,h⟩:=bnd1 h
  obtain ⟨y,e2,h2,h⟩:=bnd2 h
  obtain ⟨z,h3,h⟩:=bnd1 h
  obtain ⟨rfl,rfl⟩:=som h
  exact ⟨x,y,h1,h2,h3⟩
 | slc =>
  obtain ⟨x,e1,h1,h⟩:=bnd2 h
  obtain ⟨y,e2,h2,h⟩:=bnd2 h
  obtain ⟨z,e3,h3,h⟩:=bnd2 h
  obtain ⟨q,h4,h⟩:=bnd1 h
  obtain ⟨rfl,rfl⟩:=som h
  exact ⟨x,e1,y,e2,z,h1,h2,h3,h4⟩
 | tup => exact b0 PV.tup h
 | lst => exact b0 PV.list h
 | call f l d =>
  cases d with
  | none => exact b1 (fun ps:List PV => C f (ps.map Slot.val)) h
  | some d => exact b3 (fun e => evD C n e d) (fun (ps:List PV) kv => C f (ps.map Slot.val ++ [Slot.ownD kv])) h
 | bi f l => exact b1 (biop f) h
 | comp elt v it cond =>
  obtain ⟨hv,h⟩:=if_then (c:=Nat.blt v ev.length = true) h
  obtain ⟨x,e1,h1,h⟩:=bnd2 h
  obtain ⟨z,h3,h⟩:=bnd1 h
  obtain ⟨q,h⟩:=if_some h
  obtain ⟨rfl,rfl⟩:=Prod.mk.inj h
  exact ⟨x,z,Nat.le_of_ble_eq_true hv,h1,h3,(and_2 q).2,rfl⟩
theorem evL_inv {x:Mine.E} {r:List Mine.E} {ps:List PV} (h:evL C (n + 1) ev (x :: r) = some (ps,ev')):∃ v e1 vs,evE C n ev x = some (v,e1) ∧ evL C n e1 r = some (vs,ev') ∧ v :: vs = ps:=by
 obtain ⟨x,e1,h1,h⟩:=bnd2 h
 obtain ⟨y,e2,h2,h⟩:=bnd2 h
 obtain ⟨rfl,rfl⟩:=som h
 exact ⟨x,e1,y,h1,h2,rfl⟩
theorem evD_inv {a b:Mine.E} {r:List (Mine.E × Mine.E)} {ps:List (Int × PV)} (h:evD C (n + 1) ev ((a,b) :: r) = some (ps,ev')) :
  ∃ i e1 v e2 vs,evE C n ev a = some (.int i,e1) ∧ evE C n e1 b = some (v,e2) ∧ evD C n e2 r = some (vs,ev') ∧ (vs.map (·.1)).contains i = false ∧ (i,v) :: vs = ps:=by
 obtain ⟨x,e1,h1,h⟩:=bnd2 h
 obtain ⟨y,e2,h2,h⟩:=bnd2 h
 obtain ⟨z,e3,h3,h⟩:=bnd2 h
 cases x <;> first | exact (nn h).elim | skip
 obtain ⟨q,h⟩:=ifn_some h
 obtain ⟨rfl,rfl⟩:=Prod.mk.inj h
 exact ⟨_,e1,y,e2,z,h1,h2,h3,Bool.eq_false_iff.mpr q,rfl⟩
theorem evO_inv {x:Mine.E} {o:Option PV} (h:evO C (n + 1) ev (some x) = some (o,ev')):∃ v,evE C n ev x = some (v,ev') ∧ some v = o:=by
 exact b0 some h
theorem evTs_inv {t:T} {r:List T} {u b:Bool} (h:evTs C (n + 1) ev u (t :: r) = some (b,ev')):∃ c e1,evT C n ev t = some (c,e1) ∧ (if c = u then evTs C n e1 u r = some (b,ev') else c = b ∧ e1 = ev'):=by
 obtain ⟨c,e1,h1,h⟩:=bnd2 h
 refine ⟨c,e1,h1,?_⟩
 by_cases q:c = u
 ·rw [if_pos q];subst q;exact (if_pos (beq_self_eq_true c)).symm.trans h
 ·rw [if_neg q];exact som ((if_neg (fun e => q (eq_of_beq e))).symm.trans h)
noncomputable def EvT (C:Calls) (n:Nat) (ev:Ev) (b:Bool) (ev':Ev):T → Prop
 | .not t => ∃ c,evT C n ev t = some (c,ev') ∧ (!c) = b
 | .and l => evTs C n ev true l = some (b,ev')
 | .or l => evTs C n ev false l = some (b,ev')
 | .cmp op a c => ∃ x e1 y,evE C n ev a = some (x,e1) ∧ evE C n e1 c = some (y,ev') ∧ cmpop op x y = some b
 | .val e => evE C n ev e = some (.bool b,ev')
 | .neF a none l _ => ∃ vs q,evE C n ev a = some (.tup vs,ev') ∧ fltsEq vs l = some q ∧ (!q) = b
 | .neF a (some t) l r => ∃ vs e1 c q,evE C n ev a = some (.tup vs,e1) ∧ evT C n e1 t = some (c,ev') ∧ fltsEq vs (if c then l else r) = some q ∧ (!q) = b
theorem neF_inv {vs:List UInt64} {x:PV} {e1:Ev} {b:Bool} (h:(match x with | .tup l => (fltsEq l vs).bind fun q => some (!q,e1) | _ => none) = some (b,ev')):∃ l q,x = .tup l ∧ fltsEq l vs = some q ∧ (!q) = b ∧ e1 = ev':=by
 cases x <;> first | exact (nn h).elim | skip
 obtain ⟨q,h1,h⟩:=bnd1 h
 obtain ⟨rfl,rfl⟩:=som h
 exact ⟨_,q,rfl,h1,rfl,rfl⟩
theorem evT_inv {t:T} {b:Bool} (h:evT C (n + 1) ev t = some (b,ev')):EvT C n ev b ev' t:=by
 cases t with
 | not => exact b0 not h
 | and => exact h
 | or => exact h
 | cmp op a b => exact b3 (fun e => evE C n e b) (cmpop op) h
 | val =>
  obtain ⟨x,e1,h1,h⟩:=bnd2 h
  cases x <;> first | exact (nn h).elim | skip
  obtain ⟨rfl,rfl⟩:=som h
  exact h1
 | neF a t l r =>
  obtain ⟨x,e1,h1,h⟩:=bnd2 h
  cases t with
  | none =>
   obtain ⟨vs,q,rfl,h2,rfl,rfl⟩:=neF_inv h
   exact ⟨vs,q,h1,h2,rfl⟩
  | some t =>
   obtain ⟨c,e2,h2,h⟩:=bnd2 h
   obtain ⟨vs,q,rfl,h3,rfl,rfl⟩:=neF_inv h
   exact ⟨vs,e1,c,q,h1,h2,h3,rfl⟩
noncomputable def EvI (C:Calls) (n:Nat) (ev:Ev) (its:List PV) (ev':Ev):It → Prop
 | .val a => ∃ v,evE C n ev a = some (v,ev') ∧ itsOf v = some its
 | .range a => ∃ i,evE C n ev a = some (.int i,ev') ∧ small i = true ∧ rangeI 0 i.toNat = its
 | .range2 a b => ∃ i e1 j,evE C n ev a = some (.int i,e1) ∧ evE C n e1 b = some (.int j,ev') ∧ small i = true ∧ small j = true ∧ rangeI i (j - i).toNat = its
 | .gen a => ∃ s,evE C n ev a = some (.str s,ev') ∧ lim s.length = true ∧ esc 0 false s = its
theorem evI_inv {t:It} {its:List PV} (h:evI C (n + 1) ev t = some (its,ev')):EvI C n ev its ev' t:=by
 cases t with
 | val => exact b1 itsOf h
 | range =>
  obtain ⟨x,e1,h1,h⟩:=bnd2 h
  cases x <;> first | exact (nn h).elim | skip
  obtain ⟨q,h⟩:=if_some h
  obtain ⟨rfl,rfl⟩:=Prod.mk.inj h
  exact ⟨_,h1,q,rfl⟩
 | range2 =>
  obtain ⟨x,e1,h1,h⟩:=bnd2 h
  obtain ⟨y,e2,h2,h⟩:=bnd2 h
  cases x <;> first | exact (nn h).elim | skip
  cases y <;> first | exact (nn h).elim | skip
  obtain ⟨q,h⟩:=if_some h
  obtain ⟨rfl,rfl⟩:=Prod.mk.inj h
  exact ⟨_,e1,_,h1,h2,(and_2 q).1,(and_2 q).2,rfl⟩
 | gen =>
  obtain ⟨x,e1,h1,h⟩:=bnd2 h
  cases x <;> first | exact (nn h).elim | skip
  obtain ⟨q,h⟩:=if_some h
  obtain ⟨rfl,rfl⟩:=Prod.mk.inj h
  exact ⟨_,h1,q,rfl⟩
end
section
variable (C:Calls)
structure LeAll (n:Nat):Prop where
 e:∀ {ev x p ev'},evE C n ev x = some (p,ev') → Le ev ev'
 l:∀ {ev x p ev'},evL C n ev x = some (p,ev') → Le ev ev' ∧ p.length = x.length
 d:∀ {ev x p ev'},evD C n ev x = some (p,ev') → Le ev ev' ∧ (p.map (·.1)).Nodup
 o:∀ {ev x p ev'},evO C n ev x = some (p,ev') → Le ev ev'
 t:∀ {ev x p ev'},evT C n ev x = some (p,ev') → Le ev ev'
 ts:∀ {ev u x p ev'},evTs C n ev u x = some (p,ev') → Le ev ev'
 i:∀ {ev x p ev'},evI C n ev x = some (p,ev') → Le ev ev'
variable {C} {n:Nat}
theorem leE (H:LeAll C n) {ev:Ev} {x:Mine.E} {p:PV} {ev':Ev} (h:EvE C n ev p ev' x):Le ev ev':=by
 cases x with
 | none | bool | int | flt | str | nt | gl => exact h.2 ▸ Le.refl _
 | var => obtain ⟨t,_,_,rfl⟩:=h;exact Le.froz
 | bin | idx => obtain ⟨x,e1,y,h1,h2,_⟩:=h;exact (H.e h1).trans (H.e h2)
 | cmp => obtain ⟨x,e1,y,q,h1,h2,_⟩:=h;exact (H.e h1).trans (H.e h2)
 | notv => obtain ⟨b,h1,_⟩:=h;exact H.e h1
 | ife => obtain ⟨c,e1,h1,h2⟩:=h;exact (H.t h1).trans (H.e h2)
 | idxv => obtain ⟨t,y,_,h2,_⟩:=h;exact H.e h2
 | slc => obtain ⟨x,e1,l,e2,q,h1,h2,h3,_⟩:=h;exact (H.e h1).trans ((H.o h2).trans (H.o h3))
 | tup | lst | bi => obtain ⟨ps,h1,_⟩:=h;exact (H.l h1).1
 | call f l d =>
  cases d with
  | none => obtain ⟨ps,h1,_⟩:=h;exact (H.l h1).1
  | some d => obtain ⟨ps,e1,kv,h1,h2,_⟩:=h;exact (H.l h1).1.trans (H.d h2).1
 | getv => obtain ⟨t,l,i,e1,u,_,_,h1,h2,_⟩:=h;exact (H.e h1).trans (H.e h2)
 | sumv => obtain ⟨t,l,q,_,_,_,_,rfl⟩:=h;exact Le.refl _
 | comp => obtain ⟨its,all,_,h1,_⟩:=h;exact H.i h1
theorem leT (H:LeAll C n) {ev:Ev} {x:T} {b:Bool} {ev':Ev} (h:EvT C n ev b ev' x):Le ev ev':=by
 cases x with
 | not => obtain ⟨c,h1,_⟩:=h;exact H.t h1
 | and | or => exact H.ts h
 | cmp => obtain ⟨x,e1,y,h1,h2,_⟩:=h;exact (H.e h1).trans (H.e h2)
 | val => exact H.e h
 | neF a t =>
  cases t with
  | none => obtain ⟨vs,q,h1,_⟩:=h;exact H.e h1
  | some t => obtain ⟨vs,e1,c,q,h1,h2,_⟩:=h;exact (H.e h1).trans (H.t h2)
theorem leI (H:LeAll C n) {ev:Ev} {x:It} {its:List PV} {ev':Ev} (h:EvI C n ev its ev' x):Le ev ev':=by
 cases x with
 | val | range | gen => obtain ⟨v,h1,_⟩:=h;exact H.e h1
 | range2 => obtain ⟨i,e1,j,h1,h2,_⟩:=h;exact (H.e h1).trans (H.e h2)
theorem leL (H:LeAll C n) {ev:Ev} {x:List Mine.E} {ps:List PV} {ev':Ev} (h:evL C (n + 1) ev x = some (ps,ev')):Le ev ev' ∧ ps.length = x.length:=by
 cases x with
 | nil => obtain ⟨rfl,rfl⟩:=som h;exact ⟨Le.refl _,rfl⟩
 | cons a r =>
  obtain ⟨v,e1,vs,h1,h2,rfl⟩:=evL_inv h
  exact ⟨(H.e h1).trans (H.l h2).1,congrArg (· + 1) (H.l h2).2⟩
theorem leD (H:LeAll C n) {ev:Ev} {x:List (Mine.E × Mine.E)} {ps:List (Int × PV)} {ev':Ev} (h:evD C (n + 1) ev x = some (ps,ev')):Le ev ev' ∧ (ps.map (·.1)).Nodup:=by
 cases x with
 | nil => obtain ⟨rfl,rfl⟩:=som h;exact ⟨Le.refl _,.nil⟩
 | cons a r =>
  obtain ⟨i,e1,v,e2,vs,h1,h2,h3,hn,rfl⟩:=evD_inv h
  refine ⟨(H.e h1).trans ((H.e h2).trans (H.d h3).1),?_⟩
  rw [List.map_cons,List.nodup_cons]
  exact ⟨fun m => Bool.false_ne_true (hn.symm.trans (List.contains_iff_mem.mpr m)),(H.d h3).2⟩
theorem leTs (H:LeAll C n) {ev:Ev} {u:Bool} {x:List T} {b:Bool} {ev':Ev} (h:evTs C (n + 1) ev u x = some (b,ev')):Le ev ev':=by
 cases x with
 | nil => obtain ⟨rfl,rfl⟩:=som h;exact Le.refl _
 | cons t r =>
  obtain ⟨c,e1,h1,h2⟩:=evTs_inv h
  split at h2
  ·exact (H.t h1).trans (H.ts h2)
  ·exact h2.2 ▸ H.t h1
theorem leO (H:LeAll C n) {ev:Ev} {x:Option Mine.E} {o:Option PV} {ev':Ev} (h:evO C (n + 1) ev x = some (o,ev')):Le ev ev':=by
 cases x with
 | none => obtain ⟨rfl,rfl⟩:=som h;exact Le.refl _
 | some a => obtain ⟨v,h1,_⟩:=evO_inv h;exact H.e h1
theorem le_all (n:Nat):LeAll C n:=by
 induction n with
 | zero => exact ⟨nofun,nofun,nofun,nofun,nofun,nofun,nofun⟩
 | succ n H => exact ⟨fun h => leE H (evE_inv h),leL H,leD H,leO H,fun h => leT H (evT_inv h),leTs H,fun h => leI H (evI_inv h)⟩
end
end
section
section
variable (w:World) (A:Around) (C:Calls) (n:Nat)
noncomputable def PE:Prop:=∀ (m:Nat) (penv:Env) (G K:List PySem.Str) (R:List (PySem.Str × Nat)) (N:Nat) (Z:Addr → Prop) (O:Nat → Addr) (ev:Ev) (x:Expr) (e0:Mine.E) (p:PV) (ev':Ev) (s:Shared),Stat penv G R N → KOk penv K → ev.length = N → chkE m G K R x e0 = true → evE C n ev e0 = some (p,ev') →
 Inv w penv R Z O ev s.heap s.toks → SndE w A penv R Z O s (eval x penv) p ev'
noncomputable def PL:Prop:=∀ (m:Nat) (penv:Env) (G K:List PySem.Str) (R:List (PySem.Str × Nat)) (N:Nat) (Z:Addr → Prop) (O:Nat → Addr) (ev:Ev) (xs:List Expr) (es:List Mine.E) (ps:List PV) (ev':Ev) (s:Shared),Stat penv G R N → KOk penv K → ev.length = N → chkL m G K R xs es = true → evL C n ev es = some (ps,ev') →
 Inv w penv R Z O ev s.heap s.toks → ∀ pos,SndL w A penv R Z O s (spliced (backTo pos (starEach xs penv))) ps ev'
noncomputable def PD:Prop:=∀ (m:Nat) (penv:Env) (G K:List PySem.Str) (R:List (PySem.Str × Nat)) (N:Nat) (Z:Addr → Prop) (O:Nat → Addr) (ev:Ev) (ks:List (Option Expr)) (vs:List Expr) (es:List (Mine.E × Mine.E)) (l:List (Int × PV)) (ev':Ev) (s:Shared),Stat penv G R N → KOk penv K → ev.length = N → chkD m G K R ks vs es = true → evD C n ev es = some (l,ev') →
 Inv w penv R Z O ev s.heap s.toks → ∀ pos,SndP w A penv R Z O s (evalPairs (pairTrees ks vs penv pos)) l ev'
noncomputable def SndO (penv:Env) (R:List (PySem.Str × Nat)) (Z:Addr → Prop) (O:Nat → Addr) (s:Shared) (t:Sem Value) (o:Option PV) (ev':Ev):Prop :=
 ∀ (Q:Value → Shared → Prop) (E:Value → Shared → Prop),(∀ s' v,Ext penv.locals s s' → s.heap.objs.size ≤ s'.heap.objs.size → Inv w penv R Z O ev' s'.heap s'.toks → Bd w s'.heap (XS Z penv O ev') s'.toks v o → Q v s') → wpAny (model pw w) A t Q E s
noncomputable def PO:Prop:=∀ (m:Nat) (penv:Env) (G K:List PySem.Str) (R:List (PySem.Str × Nat)) (N:Nat) (Z:Addr → Prop) (O:Nat → Addr) (ev:Ev) (x:Option Expr) (e0:Option Mine.E) (o:Option PV) (ev':Ev) (s:Shared),Stat penv G R N → KOk penv K → ev.length = N → chkO m G K R x e0 = true → evO C n ev e0 = some (o,ev') →
 Inv w penv R Z O ev s.heap s.toks → SndO w A penv R Z O s (evalPart x penv) o ev'
noncomputable def PT:Prop:=∀ (m:Nat) (penv:Env) (G K:List PySem.Str) (R:List (PySem.Str × Nat)) (N:Nat) (Z:Addr → Prop) (O:Nat → Addr) (ev:Ev) (x:Expr) (t:T) (b:Bool) (ev':Ev) (s:Shared),Stat penv G R N → KOk penv K → ev.length = N → chkT m G K R x t = true → evT C n ev t = some (b,ev') →
 Inv w penv R Z O ev s.heap s.toks → SndB w A penv R Z O s (isTrue x penv (eval x penv)) b ev'
noncomputable def PTs:Prop:=∀ (m:Nat) (penv:Env) (G K:List PySem.Str) (R:List (PySem.Str × Nat)) (N:Nat) (Z:Addr → Prop) (O:Nat → Addr) (ev:Ev) (u:Bool) (xs:List Expr) (ts:List T) (b:Bool) (ev':Ev) (s:Shared),Stat penv G R N → KOk penv K → ev.length = N → chkTs m G K R xs ts = true → evTs C n ev u ts = some (b,ev') →
 Inv w penv R Z O ev s.heap s.toks → SndB w A penv R Z O s (allTrue (if u then .And else .Or) xs penv) b ev' ∧ (u = true → SndB w A penv R Z O s (testsT penv xs true) b ev')
noncomputable def PI:Prop:=∀ (m:Nat) (penv:Env) (G K:List PySem.Str) (R:List (PySem.Str × Nat)) (N:Nat) (Z:Addr → Prop) (O:Nat → Addr) (ev:Ev) (x:Expr) (it:It) (its:List PV) (ev':Ev) (s:Shared),Stat penv G R N → KOk penv K → ev.length = N → chkI m G K R x it = true → evI C n ev it = some (its,ev') →
 Inv w penv R Z O ev s.heap s.toks → SndI w A penv R Z O s (eval x penv) its ev'
structure IHs:Prop where
 e:PE w A C n
 l:PL w A C n
 d:PD w A C n
 o:PO w A C n
 t:PT w A C n
 ts:PTs w A C n
 i:PI w A C n
end
theorem chkL_star {G K:List PySem.Str} {R:List (PySem.Str × Nat)} {es:List Mine.E}:∀ {m:Nat} {xs:List Expr},chkL m G K R xs es = true → (∀ x ∈ xs,notStar x = true) ∧ xs.length = es.length:=by
 induction es with
 | nil =>
  intro m xs h
  cases m with
  | zero => exact absurd h Bool.false_ne_true
  | succ m => obtain rfl:=List.isEmpty_iff.mp h;exact ⟨nofun,rfl⟩
 | cons e es ih =>
  intro m xs h
  cases m with
  | zero => exact absurd h Bool.false_ne_true
  | succ m =>
   obtain ⟨h0,h1,_,h3⟩:=and_4 h
   obtain ⟨i1,i2⟩:=ih h3
   rw [cons_hd h0]
   exact ⟨fun y hy => (List.mem_cons.mp hy).elim (fun e => e ▸ h1) (i1 y),congrArg (· + 1) i2⟩
theorem chkD_keys {G K:List PySem.Str} {R:List (PySem.Str × Nat)} {es:List (Mine.E × Mine.E)}:∀ {m:Nat} {ks:List (Option Expr)} {vs:List Expr},chkD m G K R ks vs es = true → ks.all (·.isSome) = true ∧ ks.length = vs.length ∧ ks.length = es.length:=by
 induction es with
 | nil =>
  intro m ks vs h
  cases m with
  | zero => exact absurd h Bool.false_ne_true
  | succ m => obtain ⟨h1,h2⟩:=and_2 h;obtain rfl:=List.isEmpty_iff.mp h1;obtain rfl:=List.isEmpty_iff.mp h2;exact ⟨rfl,rfl,rfl⟩
 | cons e es ih =>
  intro m ks vs h
  cases m with
  | zero => exact absurd h Bool.false_ne_true
  | succ m =>
   obtain ⟨h0,_,_,h3⟩:=and_4 h
   obtain ⟨k1,k2,k3⟩:=and_3 h0
   obtain ⟨i1,i2,i3⟩:=ih h3
   rw [cons_hd k1,cons_hd k2,List.all_cons,k3]
   exact ⟨i1,congrArg (· + 1) i2,congrArg (· + 1) i3⟩
section
variable {w:World} {A:Around} {C:Calls} {n d:Nat}
theorem stepL (H:IHs w A C n):PL w A C (n + 1):=by
 intro m penv G K R N Z O ev xs es ps ev' s S hK hN hc hev I pos
 cases m with
 | zero => exact absurd hc Bool.false_ne_true
 | succ m =>
 cases es with
 | nil =>
  obtain rfl:=List.isEmpty_iff.mp hc
  obtain ⟨rfl,rfl⟩:=som hev
  exact sndL_nil I
 | cons e es =>
  obtain ⟨h0,h1,h2,h3⟩:=and_4 hc
  obtain ⟨v,e1,vs,hv,hvs,rfl⟩:=evL_inv hev
  rw [cons_hd h0,backTo_cons h1]
  exact sndL_cons ((le_all n).l hvs).1 (H.e m penv G K R N Z O ev _ e v e1 s S hK hN h2 hv I) fun s₁ I₁ => H.l m penv G K R N Z O e1 _ es vs _ s₁ S hK (((le_all n).e hv).len hN) h3 hvs I₁ pos
theorem stepD (H:IHs w A C n):PD w A C (n + 1):=by
 intro m penv G K R N Z O ev ks vs es l ev' s S hK hN hc hev I pos
 cases m with
 | zero => exact absurd hc Bool.false_ne_true
 | succ m =>
 cases es with
 | nil =>
  obtain ⟨h1,h2⟩:=and_2 hc
  obtain rfl:=List.isEmpty_iff.mp h1
  obtain rfl:=List.isEmpty_iff.mp h2
  obtain ⟨rfl,rfl⟩:=som hev
  exact sndP_nil I
 | cons e es =>
  obtain ⟨h0,h1,h2,h3⟩:=and_4 hc
  obtain ⟨k1,k2,k3⟩:=and_3 h0
  obtain ⟨i,e1,v,e2,l',hv,hu,hl,_,rfl⟩:=evD_inv hev
  rw [cons_hd k1,cons_hd k2,some_get k3]
  have N1:=((le_all n).e hv).len hN
  exact sndP_cons ((le_all n).e hu) ((le_all n).d hl).1 (H.e m penv G K R N Z O ev _ _ _ e1 s S hK hN h1 hv I) (fun s₁ I₁ => H.e m penv G K R N Z O e1 _ _ v e2 s₁ S hK N1 h2 hu I₁) fun s₁ I₁ => H.d m penv G K R N Z O e2 _ _ es l' ev' s₁ S hK (((le_all n).e hu).len N1) h3 hl I₁ pos
theorem stepO (H:IHs w A C n):PO w A C (n + 1):=by
 intro m penv G K R N Z O ev x e0 o ev' s S hK hN hc hev I Q E hQ
 cases m with
 | zero => exact absurd hc Bool.false_ne_true
 | succ m =>
 cases e0 with
 | none =>
  obtain rfl:=Option.isNone_iff_eq_none.mp hc
  obtain ⟨rfl,rfl⟩:=som hev
  rw [evalPart_none]
  exact wpAny_pure (hQ s _ (Ext.refl _ _) (Nat.le_refl _) I .none)
 | some e =>
  obtain ⟨h0,h1⟩:=and_2 hc
  obtain ⟨v,hv,rfl⟩:=evO_inv hev
  rw [some_get h0]
  exact (H.e m penv G K R N Z O ev _ e v ev' s S hK hN h1 hv I).mono fun s₁ v X1 z1 I1 r1 => hQ s₁ v X1 z1 I1 (.some r1)
theorem stepTs (H:IHs w A C n):PTs w A C (n + 1):=by
 intro m penv G K R N Z O ev u xs ts b ev' s S hK hN hc hev I
 cases m with
 | zero => exact absurd hc Bool.false_ne_true
 | succ m =>
 cases ts with
 | nil =>
  obtain rfl:=List.isEmpty_iff.mp hc
  obtain ⟨rfl,rfl⟩:=som hev
  refine ⟨fun Q E hQ => ?_,fun hu Q E hQ => ?_⟩
  ·cases u with
   | true => exact wpAny_allTrue_And_nil (hQ s (Ext.refl _ _) (Nat.le_refl _) I)
   | false => exact wpAny_pure (hQ s (Ext.refl _ _) (Nat.le_refl _) I)
  ·subst hu
   exact wpAny_tests_nil (hQ s (Ext.refl _ _) (Nat.le_refl _) I)
 | cons t ts =>
  obtain ⟨h0,h1,h2⟩:=and_3 hc
  obtain ⟨c,e1,hv,hev⟩:=evTs_inv hev
  rw [cons_hd h0]
  have N1:=((le_all n).t hv).len hN
  have g:=H.t m penv G K R N Z O ev _ t c e1 s S hK hN h1 hv I
  by_cases hcu:c = u
  ·subst hcu
   rw [if_pos rfl] at hev
   have rest:=fun s₁ I₁ => H.ts m penv G K R N Z O e1 c _ ts b ev' s₁ S hK N1 h2 hev I₁
   cases c with
   | true =>
    exact ⟨fun Q E hQ => wpAny_allTrue_And_cons (g _ _ fun s₁ X1 z1 I1 => (rest s₁ I1).1 Q E fun s₂ X2 z2 I2 => hQ s₂ (X1.trans X2) (Nat.le_trans z1 z2) I2),
     fun _ Q E hQ => tests_cons (g _ _ fun s₁ X1 z1 I1 => (rest s₁ I1).2 rfl Q E fun s₂ X2 z2 I2 => hQ s₂ (X1.trans X2) (Nat.le_trans z1 z2) I2)⟩
   | false => exact ⟨fun Q E hQ => wpAny_allTrue_Or_cons (g _ _ fun s₁ X1 z1 I1 => (rest s₁ I1).1 Q E fun s₂ X2 z2 I2 => hQ s₂ (X1.trans X2) (Nat.le_trans z1 z2) I2),nofun⟩
  ·rw [if_neg hcu] at hev
   obtain ⟨rfl,rfl⟩:=hev
   cases c <;> cases u
   ·exact absurd rfl hcu
   ·exact ⟨fun Q E hQ => wpAny_allTrue_And_cons (g _ _ hQ),fun _ Q E hQ => tests_cons (g _ _ hQ)⟩
   ·exact ⟨fun Q E hQ => wpAny_allTrue_Or_cons (g _ _ hQ),nofun⟩
   ·exact absurd rfl hcu
theorem stepI (hA:AOk A d) (H:IHs w A C n):PI w A C (n + 1):=by
 intro m penv G K R N Z O ev x it its ev' s S hK hN hc hev I
 cases m with
 | zero => exact absurd hc Bool.false_ne_true
 | succ m =>
 replace hev:=evI_inv hev
 have HE:=fun {ev x e v e' s} => H.e m penv G K R N Z O ev x e v e' s S hK
 cases it with
 | range a =>
  obtain ⟨h1,h2,h3,h4,h5⟩:=and_5 hc
  obtain ⟨i,hv,hi,rfl⟩:=hev
  rw [isC_ h1,isOne_ h3]
  exact sndI_range hA S I (List.contains_iff_mem.mp h2) h4 (HE hN h5 hv I) hi
 | range2 a c =>
  obtain ⟨h1,h2,h3,h4,h5⟩:=and_5 hc
  obtain ⟨k1,k2,k3⟩:=and_3 h3
  obtain ⟨i,e1,j,hv,hu,hi,hj,rfl⟩:=hev
  rw [isC_ h1,isTwo_ k1]
  exact sndI_range2 hA S I (List.contains_iff_mem.mp h2) k2 k3 (HE hN h4 hv I) (fun s₁ I₁ => HE (((le_all n).e hv).len hN) h5 hu I₁) hi hj
 | gen a =>
  obtain ⟨h1,h2,h3,h4,h5⟩:=and_5 hc
  obtain ⟨i,hv,hi,rfl⟩:=hev
  rw [isC_ h1,isOne_ h3]
  exact sndI_gen hA S I (List.contains_iff_mem.mp h2) h4 (HE hN h5 hv I) hi
 | val e =>
  obtain ⟨v,hv,hz⟩:=hev
  exact sndI_val hA (HE hN (and_2 hc).2 hv I) hz
theorem notSet_C {x:PySem.Str} {e:Expr} (h:isC x e = true):notSet e = true:=by rw [isC_ h];rfl
theorem chkI_plain {m:Nat} {G K:List PySem.Str} {R:List (PySem.Str × Nat)} {x:Expr} {it:It} (h:chkI m G K R x it = true):notSet x = true:=by
 cases m with
 | zero => exact absurd h Bool.false_ne_true
 | succ m =>
 cases it with
 | val => exact (and_2 h).1
 | _ => exact notSet_C (and_5 h).1
theorem isFT_ {e:Expr} {l:List UInt64} (h:isFT e l = true):e = .Tuple (view e).es (view e).kd (view e).p ∧ isFls (view e).es l = true ∧ l.length < 1000:=⟨isT_ (and_3 h).1,(and_3 h).2.1,Nat.le_of_ble_eq_true (and_3 h).2.2⟩
theorem stepT (hA:AOk A d) (H:IHs w A C n):PT w A C (n + 1):=by
 intro m penv G K R N Z O ev x t b ev' s S hK hN hc hev I
 cases m with
 | zero => exact absurd hc Bool.false_ne_true
 | succ m =>
 replace hev:=evT_inv hev
 have HE:=fun {ev x e v e' s} => H.e m penv G K R N Z O ev x e v e' s S hK
 cases t with
 | not t =>
  obtain ⟨h1,h2,h3⟩:=and_3 hc
  obtain ⟨c,hv,rfl⟩:=hev
  rw [show x = _ from isT_ h1,of_decide_eq_true h2]
  exact fun Q E hQ => wpAny_isTrue_Not (H.t m penv _ _ _ N Z O ev _ t c _ s S hK hN h3 hv I _ _ hQ)
 | and l =>
  obtain ⟨h1,h2,h3⟩:=and_3 hc
  rw [show x = _ from isT_ h1,of_decide_eq_true h2]
  exact fun Q E hQ => wpAny_isTrue_BoolOp ((H.ts m penv _ _ _ N Z O ev true _ l b ev' s S hK hN h3 hev I).1 Q E hQ)
 | or l =>
  obtain ⟨h1,h2,h3⟩:=and_3 hc
  rw [show x = _ from isT_ h1,of_decide_eq_true h2]
  exact fun Q E hQ => wpAny_isTrue_BoolOp ((H.ts m penv _ _ _ N Z O ev false _ l b ev' s S hK hN h3 hev I).1 Q E hQ)
 | cmp op a c =>
  obtain ⟨h1,h2,h3⟩:=and_3 hc
  obtain ⟨k1,k2⟩:=isCmp_ h1
  obtain ⟨v,e1,u,hv,hu,hq⟩:=hev
  rw [k1]
  exact snd_tcmp hA S k2 hq ((le_all n).e hu) (HE hN h2 hv I) fun s₁ I₁ => HE (((le_all n).e hv).len hN) h3 hu I₁
 | neF a t l r =>
  obtain ⟨h1,h2,h3⟩:=and_3 hc
  obtain ⟨k1,k2⟩:=isCmp_ h1
  cases t with
  | none =>
   obtain ⟨vs,q,hv,hq,rfl⟩:=hev
   obtain ⟨j1,j2,j3⟩:=isFT_ h3
   rw [k1]
   exact snd_ne hA S k2 (Le.refl _) (HE hN h2 hv I) (fun s₁ I₁ => j1 ▸ sndF_tuple S I₁ j2 j3) hq
  | some t =>
   obtain ⟨vs,e1,c,q,hv,hc2,hq,rfl⟩:=hev
   obtain ⟨g1,g2,g3,g4⟩:=and_4 h3
   obtain ⟨i1,i2,i3⟩:=isFT_ g2
   obtain ⟨j1,j2,j3⟩:=isFT_ g3
   have N1:=((le_all n).e hv).len hN
   rw [k1]
   refine snd_ne hA S k2 ((le_all n).t hc2) (HE hN h2 hv I) (fun s₁ I₁ Q E hQ => ?_) hq
   rw [show hd (view x).es = _ from isT_ g1]
   refine wpAny_IfExp (H.t m penv _ _ _ N Z O e1 _ t c _ s₁ S hK N1 g4 hc2 I₁ _ _ fun s₂ X2 z2 I2 => ?_)
   cases c with
   | true => rw [i1];exact sndF_tuple S I2 i2 i3 Q E fun s₃ x us X3 z3 I3 ht hf => hQ s₃ x us (X2.trans X3) (Nat.le_trans z2 z3) I3 ht (hf.mono X2.tk)
   | false => rw [j1];exact sndF_tuple S I2 j2 j3 Q E fun s₃ x us X3 z3 I3 ht hf => hQ s₃ x us (X2.trans X3) (Nat.le_trans z2 z3) I3 ht (hf.mono X2.tk)
 | val e => exact snd_tval (and_2 hc).1 (HE hN (and_2 hc).2 hev I)
end
end
section
section
variable {w:World} {A:Around} {C:Calls} {n d:Nat}
theorem str_k {y:PySem.Str} {l:List Nat} (h:(y.cps.toList == l) = true):l = y.cps.toList:=(eq_of_beq h).symm
theorem Inv.extZ {penv:Env} {G:List PySem.Str} {R:List (PySem.Str × Nat)} {N:Nat} {Z:Addr → Prop} {O:Nat → Addr} {e:Ev} {s s':Shared} (I:Inv w penv R Z O e s.heap s.toks) (S:Stat penv G R N) (x:Ext penv.locals s s') (hz:∀ b,Z b → b < s'.heap.objs.size):Inv w penv R Z O e s'.heap s'.toks :=
 I.chg (fun b o nx q => x.heap b o (fun z => nx (z ▸ xs_loc)) q) (fun i t hg ho o q => x.heap _ o (I.ne i t hg ho).1 q) (fun b o hb q => x.heap b o (by rintro rfl;exact absurd hb (Nat.not_lt.mpr S.lo)) q)
  x.ns (fun y c v hc q => isCell_at q fun o p => x.heap c o (S.cl y c hc).1 p) (fun _ z => .inl z) hz x.tk
theorem spliced_one {x:Sem Value} {s:Shared} {Q:Value → Shared → Prop} {E:Value → Shared → Prop} (h:wpAny (model pw w) A (spliced [(false,x)]) (fun vs s' => ∀ v,vs = [v] → Q v s') E s):wpAny (model pw w) A x Q E s:=by
 have e:spliced [(false,x)] = x >>= fun v => (pure [v] >>= fun here => holding here (spliced []) >>= fun r => pure (here ++ r):Sem (List Value)):=by
  show (x >>= _) = _
  refine congrArg (x >>= ·) (funext fun v => ?_)
  simp only [Bool.false_eq_true,if_false]
 rw [e] at h
 intro Γ p hΓ
 have:=h Γ p hΓ
 rw [Sem.wp_bind'] at this
 refine Sem.wp_mono (model pw w) Γ x (fun a p' s' h' => ?_) (fun _ _ _ h' => h') p s this
 rw [Sem.wp_bind'] at h'
 have h2:Sem.wp (model pw w) Γ (holding [a] (spliced []) >>= fun r => pure ([a] ++ r)) (fun vs _ s' => ∀ v,vs = [v] → Q v s') (fun e _ s' => E e s') p' s':=h'
 rw [Sem.wp_bind',Sem.wp_holding] at h2
 have h3:∀ v,[a] ++ [] = [v] → Q v s':=h2
 exact h3 a rfl
theorem one_of_list (H:IHs w A C n) {m:Nat} {penv:Env} {G K:List PySem.Str} {R:List (PySem.Str × Nat)} {N:Nat} {Z:Addr → Prop} {O:Nat → Addr} {ev e1:Ev} {s:Shared} {b:Expr} {l:List Mine.E} {ps:List PV} (S:Stat penv G R N) (hK:KOk penv K) (hN:ev.length = N)
  (hc:chkL m G K R [b] l = true) (hev:evL C n ev l = some (ps,e1)) (I:Inv w penv R Z O ev s.heap s.toks):∃ q,ps = [q] ∧ notStar b = true ∧ SndE w A penv R Z O s (eval b penv) q e1:=by
 obtain ⟨hst,hl⟩:=chkL_star hc
 obtain ⟨q,rfl⟩:∃ q,ps = [q]:=List.length_eq_one_iff.mp (((le_all n).l hev).2.trans hl.symm)
 have hst:=hst b (.head _)
 refine ⟨q,rfl,hst,?_⟩
 have g:=H.l m penv G K R N Z O ev [b] l [q] e1 s S hK hN hc hev I ⟨0,0,0,0⟩
 rw [backTo_cons hst] at g
 intro Q E hQ
 refine spliced_one (g (fun vs s' => ∀ v,vs = [v] → Q v s') E fun s' vs X z I' r v hv => ?_)
 subst hv
 exact hQ s' v X z I' (by obtain ⟨_,e,r⟩:=r.oneE;cases e;exact r)
section
variable {m:Nat} {penv:Env} {G K:List PySem.Str} {R:List (PySem.Str × Nat)} {N:Nat} {Z:Addr → Prop} {O:Nat → Addr} {ev ev':Ev} {x:Expr} {p:PV} {s:Shared}
theorem stepBi (hA:AOk A d) (H:IHs w A C n) {f:Bi} {l:List Mine.E} (S:Stat penv G R N) (hK:KOk penv K) (hN:ev.length = N) (hc:chkE (m + 1) G K R x (.bi f l) = true) (hev:EvE C n ev p ev' (.bi f l)) (I:Inv w penv R Z O ev s.heap s.toks):SndE w A penv R Z O s (eval x penv) p ev':=by
 obtain ⟨ps,hv,hq⟩:=hev
 have one:=fun {b:Expr} {s:Shared} (hc:chkL m G K R [b] l = true) (I:Inv w penv R Z O ev s.heap s.toks) => one_of_list H S hK hN hc hv I
 by_cases hf:bi7.contains f = true
 ·obtain ⟨h1,h2,h3,h4⟩:=and_4 ((if_pos hf).symm.trans hc)
  have h6:=h4
  rw [cons_hd h3] at h6
  have hst:=(chkL_star h6).1
  rw [isC_ h1,cons_hd h3]
  exact snd_bip hA S I hf (List.contains_iff_mem.mp h2) (hst _ (.head _)) (fun x hx => hst x (.tail _ hx)) (H.l m penv _ _ _ N Z O ev _ l ps _ s S hK hN h6 hv I _) hq
 ·replace hc:=(if_neg hf).symm.trans hc
  cases f <;> first | exact absurd rfl hf | skip
  ·obtain ⟨h1,h2,h3,h4,h5⟩:=and_5 hc
   obtain ⟨k1,k2⟩:=and_2 h4
   obtain ⟨q,rfl,hst,g⟩:=one h5 I
   rw [isC_ h1,isTwo_ h3,isNm_ k1]
   exact snd_isStr S I (List.contains_iff_mem.mp h2) (List.contains_iff_mem.mp k2) hst g hq
  ·obtain ⟨h1,h2,h3,h4⟩:=and_4 hc
   obtain ⟨q,rfl,hst,_⟩:=one h4 I
   obtain ⟨j1,j2⟩:=isM_ h1
   rw [j1,isK_ h2,isOne_ h3]
   refine snd_join S I rfl j2 hst (fun s₁ I₁ => ?_) hq
   obtain ⟨_,e,_,g⟩:=one h4 I₁
   cases e;exact g
  ·obtain ⟨h1,h2,h3,h4⟩:=and_4 hc
   obtain ⟨q,rfl,hst,g⟩:=one h4 I
   obtain ⟨j1,j2⟩:=isM_ h1
   rw [j1,List.isEmpty_iff.mp h3]
   rw [show mO x = _ from isT_ h2] at g ⊢
   exact snd_lower S j2 g hq
  ·obtain ⟨h1,h2,h3,h4,h5⟩:=and_5 hc
   obtain ⟨q,rfl,hst,g⟩:=one h5 I
   obtain ⟨j1,j2⟩:=isM_ h1
   rw [j1,isNm_ h2,isOne_ h4]
   exact snd_get1 S I (List.contains_iff_mem.mp h3) j2 hst g hq
theorem stepCall (hA:AOk A d) (hC:CallsOk w C d) (H:IHs w A C n) {f:Nat} {l:List Mine.E} {dd:Option (List (Mine.E × Mine.E))} (S:Stat penv G R N) (hK:KOk penv K) (hN:ev.length = N) (hc:chkE (m + 1) G K R x (.call f l dd) = true) (hev:EvE C n ev p ev' (.call f l dd))
  (I:Inv w penv R Z O ev s.heap s.toks):SndE w A penv R Z O s (eval x penv) p ev':=by
 obtain ⟨h1,h2,h3,h4,h5⟩:=and_5 hc
 have h2:=Nat.le_of_ble_eq_true h2
 have h3:=Nat.le_of_ble_eq_true h3
 have h4:=List.contains_iff_mem.mp h4
 rw [isC_ h1]
 cases dd with
 | none =>
  obtain ⟨ps,hv,hq⟩:=hev
  obtain ⟨k1,k2⟩:=and_2 h5
  have k3:=k2
  rw [cons_hd k1] at k3 ⊢
  exact snd_call hC hA S I h2 h3 rfl h4 ((chkL_star k3).1 _ (.head _)) (H.l m penv _ _ _ N Z O ev _ l ps _ s S hK hN k3 hv I _) hq
 | some dd =>
  obtain ⟨ps,e1,kv,hv,hkv,hq⟩:=hev
  obtain ⟨k1,k2,k3,k4,k5⟩:=and_5 h5
  obtain ⟨q1,q2⟩:=and_2 k3
  have q1:=Nat.le_of_ble_eq_true q1
  obtain ⟨i1,i2,i3⟩:=chkD_keys k5
  obtain ⟨q,rfl,hst,g⟩:=one_of_list H S hK hN k4 hv I
  have N1:=((le_all n).l hv).1.len hN
  rw [isTwo_ k1,show hd2 (view x).es = _ from isT_ k2]
  refine snd_callD hC hA S I ((le_all n).d hkv).1 h2 h3 rfl h4 hst g (fun s₁ I₁ => ?_) hq
  refine snd_dict S I₁ ((le_all n).d hkv).1 i1 i2 (fun e => ?_) (i3 ▸ Nat.le_of_lt q1) ((le_all n).d hkv).2 fun s₂ Z₂ I₂ => H.d m penv _ _ _ N Z₂ O e1 _ _ dd kv _ s₂ S hK N1 k5 hkv I₂ _
  rw [e] at i3
  obtain rfl:=List.length_eq_zero_iff.mp i3.symm
  cases q2
theorem stepComp (hA:AOk A d) (H:IHs w A C n) {m v:Nat} {sc:Scope} {y:PySem.Str} {py pos:Pos} {it:Value} {s₀ s₂:Shared} {ifs:List Expr} {cond:List T} {elt' iter:Expr} {elt:Mine.E} {its all:List PV} {RR:Value → Addr → Result → Shared → Prop} {E:Value → Shared → Prop}
  (S:Stat penv G R N) (hK:KOk penv K) (hf:FreeOk sc y K) (hv:(R.map (·.2)).contains v = false) (hvN:v < N) (hN:ev.length = N) (I₀:Inv w penv R Z O ev s₀.heap s₀.toks)
  (hi:Iters w A (XS Z penv O ev) s₀ its it s₂) (hz:s₀.heap.objs.size ≤ s₂.heap.objs.size) (hlim:lim its.length = true) (hc:compL (compF C n v ev cond elt) its = some all) (h4:chkTs m (gOf sc) [] ((y,v) :: rOf sc R) ifs cond = true) (h5:chkE m (gOf sc) [] ((y,v) :: rOf sc R) elt' elt = true)
  (hR:∀ Da Ca W s,s₂.heap.objs.size ≤ Da → s₂.heap.objs.size ≤ Ca → Da ≠ Ca → CompSt w penv R Z O ev s₀ Da Ca all W s → RR (.ref Da) Ca (.ok .next) s) :
  wpAny (model pw w) A (newList []) (fun acc s₃ => wpAny (model pw w) A (newFunctionEnv sc penv.globals (clOf penv.cells sc.names []) [] penv.qual none .none (some penv)) (fun cenv s₄ =>
   codeAny (model pw w) A (.compStart (.ListComp elt' [⟨.Name y py,iter,ifs,0⟩] sc pos) 0 it acc { cenv with scope:=relabel sc penv }) (RR acc cenv.locals) s₄) E s₃) E s₂:=by
 refine comp_run (w:=w) (A:=A) (C:=C) (n:=n) (elt:=elt) (cond:=cond) (all:=all) (its:=its) (K:=K) hA S hK hf hv hvN hN I₀ hi hz (lim_iff.mp hlim) hc (fun Ca Zc s x ok e' Sc Ic he => ?_) (fun Ca Zc s e₁ q e' Sc hl Ic he => ?_) hR
 ·have hl:(setS (Mine.vals ev) v (.val x)).length = N:=by rw [← hN];simp [setS,Mine.vals]
  exact ⟨((le_all n).ts he).len hl,(H.ts m _ (gOf sc) [] _ N Zc O _ true ifs cond ok e' s Sc nofun hl h4 he Ic).2 rfl⟩
 ·exact H.e m _ (gOf sc) [] _ N Zc O e₁ elt' elt q e' s Sc nofun hl h5 he Ic
theorem stepSlc (H:IHs w A C n) {a:Mine.E} {lo hi:Option Mine.E} (S:Stat penv G R N) (hK:KOk penv K) (hN:ev.length = N) (hc:chkE (m + 1) G K R x (.slc a lo hi) = true) (hev:EvE C n ev p ev' (.slc a lo hi)) (I:Inv w penv R Z O ev s.heap s.toks):SndE w A penv R Z O s (eval x penv) p ev':=by
 cases a <;> first | exact absurd hc Bool.false_ne_true | skip
 rename_i i
 obtain ⟨h1,h2,h3,h4,h5⟩:=and_5 hc
 obtain ⟨k1,k2⟩:=and_2 h3
 obtain ⟨q,e1,lo',e2,hi',hv,hlo,hhi,hq⟩:=hev
 have N1:=((le_all n).e hv).len hN
 have L2:=(le_all n).o hlo
 have L3:=(le_all n).o hhi
 have g:=H.e 1 penv G K R N Z O ev (view x).a (.var i) q e1 s S hK hN h2 hv I
 intro Q E hQ
 rw [show x = _ from isT_ h1,show (view x).b = _ from isT_ k1,Option.isNone_iff_eq_none.mp k2]
 rw [show (view x).a = _ from isT_ (and_2 h2).1] at g ⊢
 refine wpAny_grow (snd_slice (L:=penv.locals) (g.mono fun s₁ v X1 z1 I1 r1 => ?_))
 refine H.o m penv _ _ _ N Z O e1 _ lo lo' e2 s₁ S hK N1 h4 hlo I1 _ _ fun s₂ vl X2 z2 I2 b2 => ?_
 refine H.o m penv _ _ _ N Z O e2 _ hi hi' _ s₂ S hK (L2.len N1) h5 hhi I2 _ _ fun s₃ vu X3 z3 I3 b3 => ?_
 have b2':Bd w s₃.heap (XS Z penv O ev') s₃.toks vl lo':=by
  cases b2 with
  | none => exact .none
  | some r => exact .some (r.go X3 L3)
 refine ⟨_,q,lo',hi',_,(r1.go (X2.trans X3) (L2.trans L3)).cont,b2',b3,hq,I3.lx,fun s₄ v4 X4 r4 hz _ => ?_⟩
 exact hQ s₄ v4 (((X1.trans X2).trans X3).trans X4) hz (I3.extZ S X4 fun b hb => Nat.lt_of_lt_of_le (I.zex b hb) hz) r4
end
theorem stepE (hA:AOk A d) (hC:CallsOk w C d) (H:IHs w A C n):PE w A C (n + 1):=by
 intro m penv G K R N Z O ev x e0 p ev' s S hK hN hc hev I
 cases m with
 | zero => exact absurd hc Bool.false_ne_true
 | succ m =>
 replace hev:=evE_inv hev
 have HE:=fun {ev x e v e' s} => H.e m penv G K R N Z O ev x e v e' s S hK
 have LE:=fun {ev x p ev'} => @LeAll.e C n (le_all n) ev x p ev'
 cases e0 with
 | none => obtain ⟨rfl,rfl⟩:=hev;exact isK_ hc ▸ snd_const S I (.inl ⟨rfl,rfl⟩)
 | bool b => obtain ⟨rfl,rfl⟩:=hev;exact isK_ hc ▸ snd_const S I (.inr (.inl ⟨_,rfl,rfl⟩))
 | int i => obtain ⟨rfl,rfl⟩:=hev;exact isK_ hc ▸ snd_const S I (.inr (.inr (.inl ⟨_,rfl,rfl⟩)))
 | flt u => obtain ⟨rfl,rfl⟩:=hev;exact isK_ hc ▸ snd_const S I (.inr (.inr (.inr (.inl ⟨_,rfl,rfl⟩))))
 | str l => obtain ⟨rfl,rfl⟩:=hev;exact isK_ hc ▸ snd_const S I (.inr (.inr (.inr (.inr ⟨k l,rfl,rfl⟩))))
 | var i =>
  obtain ⟨h1,h2⟩:=and_2 hc
  obtain ⟨t,hg,rfl,rfl⟩:=hev
  rw [show x = _ from isT_ h1]
  exact snd_var S I (eq_of_beq h2) hg
 | nt =>
  obtain ⟨h1,h2⟩:=and_2 hc
  obtain ⟨rfl,rfl⟩:=hev
  intro Q E hQ
  obtain ⟨t,e⟩:=nt_glob w.params
  rw [isNm_ h1]
  exact load_glob S I.base (List.contains_iff_mem.mp h2) e (hQ s _ (Ext.refl _ _) (Nat.le_refl _) I (.int 256 t)) (by decide)
 | gl g =>
  obtain ⟨h1,h2⟩:=and_2 hc
  obtain ⟨rfl,rfl⟩:=hev
  intro Q E hQ
  rw [isNm_ h1]
  exact load_glob S I.base (List.contains_iff_mem.mp h2) (gl_glob w.params g) (hQ s _ (Ext.refl _ _) (Nat.le_refl _) I (.gl g)) (by cases g <;> decide)
 | bin op a b =>
  obtain ⟨h1,h2,h3,h4⟩:=and_4 hc
  obtain ⟨v,e1,u,hv,hu,hq⟩:=hev
  rw [show x = _ from isT_ h1,bopOk_mem h2]
  exact snd_bin hA.hd S hq (LE hu) (HE hN h3 hv I) fun s₁ I₁ => HE ((LE hv).len hN) h4 hu I₁
 | cmp op a b =>
  obtain ⟨h1,h2,h3⟩:=and_3 hc
  obtain ⟨k1,k2⟩:=isCmp_ h1
  obtain ⟨v,e1,u,q,hv,hu,hq,rfl⟩:=hev
  rw [k1]
  exact snd_cmpE hA S k2 hq (LE hu) (HE hN h2 hv I) fun s₁ I₁ => HE ((LE hv).len hN) h3 hu I₁
 | notv a =>
  obtain ⟨h1,h2,h3⟩:=and_3 hc
  obtain ⟨b,hv,rfl⟩:=hev
  rw [show x = _ from isT_ h1,of_decide_eq_true h2]
  exact snd_notv (HE hN h3 hv I)
 | ife t a b =>
  obtain ⟨h1,h2,h3,h4⟩:=and_4 hc
  obtain ⟨c,e1,hv,hu⟩:=hev
  have N1:=((le_all n).t hv).len hN
  intro Q E hQ
  rw [show x = _ from isT_ h1]
  refine wpAny_IfExp (H.t m penv _ _ _ N Z O ev _ t c e1 s S hK hN h2 hv I _ _ fun s₁ X1 z1 I1 => ?_)
  cases c with
  | true => exact (HE N1 h3 hu I1).mono fun s₂ v X2 z2 I2 r2 => hQ s₂ v (X1.trans X2) (Nat.le_trans z1 z2) I2 r2
  | false => exact (HE N1 h4 hu I1).mono fun s₂ v X2 z2 I2 r2 => hQ s₂ v (X1.trans X2) (Nat.le_trans z1 z2) I2 r2
 | idx a i =>
  obtain ⟨h1,h2,h3,h4⟩:=and_4 hc
  obtain ⟨v,e1,u,hv,hu,hq⟩:=hev
  rw [show x = _ from isT_ h1]
  exact snd_item S h2 hq (LE hu) (HE hN h3 hv I) fun s₁ I₁ => HE ((LE hv).len hN) h4 hu I₁
 | idxv v i =>
  obtain ⟨h1,h2,h3,h4,h5⟩:=and_5 hc
  obtain ⟨t,u,hg,hu,hq⟩:=hev
  rw [show x = _ from isT_ h1,show (view x).a = _ from isT_ h2]
  exact snd_itemv S I (eq_of_beq h3) hg h4 hq (LE hu) (HE hN h5 hu I)
 | slc a lo hi => exact stepSlc H S hK hN hc hev I
 | tup l =>
  obtain ⟨h1,h2,h3⟩:=and_3 hc
  obtain ⟨ps,hv,rfl⟩:=hev
  rw [show x = _ from isT_ h1]
  exact snd_tuple (((le_all n).l hv).2 ▸ Nat.le_of_ble_eq_true h2) S (H.l m penv _ _ _ N Z O ev _ l ps _ s S hK hN h3 hv I _)
 | lst l =>
  obtain ⟨h1,h2,h3⟩:=and_3 hc
  obtain ⟨ps,hv,rfl⟩:=hev
  rw [show x = _ from isT_ h1]
  exact snd_list (((le_all n).l hv).2 ▸ Nat.le_of_ble_eq_true h2) S (H.l m penv _ _ _ N Z O ev _ l ps _ s S hK hN h3 hv I _)
 | call f l dd => exact stepCall hA hC H S hK hN hc hev I
 | bi f l => exact stepBi hA H S hK hN hc hev I
 | getv v a b =>
  obtain ⟨h1,h2,h3,h4,h5⟩:=and_5 hc
  obtain ⟨j1,j2⟩:=isM_ h1
  obtain ⟨i1,i2⟩:=and_2 h2
  obtain ⟨k1,k2,k3⟩:=and_3 h3
  obtain ⟨t,l,i,e1,u,hg,hf,hv,hu,rfl⟩:=hev
  rw [j1,show mO x = _ from isT_ i1,isTwo_ k1]
  exact snd_getv S I j2 (eq_of_beq i2) hg hf k2 k3 (LE hv) (LE hu) (HE hN h4 hv I) fun s₁ I₁ => HE ((LE hv).len hN) h5 hu I₁
 | sumv v =>
  obtain ⟨h1,h2,h3,h4,h5⟩:=and_5 hc
  obtain ⟨i1,i2⟩:=and_2 h4
  obtain ⟨j1,j2⟩:=isM_ i1
  obtain ⟨k1,k2⟩:=and_2 h5
  obtain ⟨t,l,q,hg,hf,hq,rfl,rfl⟩:=hev
  rw [isC_ h1,isOne_ h3,j1,List.isEmpty_iff.mp i2,show mO (hd (view x).es) = _ from isT_ k1]
  exact snd_sumv hA S I (List.contains_iff_mem.mp h2) j2 (eq_of_beq k2) hg hf hq
 | comp elt v it cond =>
  obtain ⟨h1,h2,h3,h4,h5⟩:=and_5 hc
  obtain ⟨k1,k2⟩:=and_2 h2
  obtain ⟨its,all,hvN,hi,hall,hlim,rfl⟩:=hev
  have hf:=freeOk_iff k1
  have L1:=(le_all n).i hi
  intro Q E hQ
  rw [isLC_ h1,eval_ListComp]
  refine wpAny_grow (wpAny_comprehension_free (use:=none) rfl (fold_plain (chkI_plain h3)) (freeOk_clos hf hK) hf.fn (freeOk_names hf) ?_)
  refine H.i m penv _ _ _ N Z O ev _ it its _ s S hK hN h3 hi I _ _ fun s₀ itv s₂ X0 z0 I0 hit z2 => ?_
  refine stepComp (K:=K) hA H S hK hf ((Bool.not_eq_true' _).mp k2) (hN ▸ hvN) (L1.len hN) I0 hit z2 hlim hall h4 h5 (fun Da Ca W s₃ hD hC hDC st => ?_)
  obtain ⟨m,hm⟩:=st.ns
  refine ⟨m,hm,fun h' hs hz _ => ?_⟩
  obtain ⟨c,I',r⟩:=comp_done S I0 (Nat.le_trans z2 hD) (Nat.le_trans z2 hC) hDC st hs
  exact hQ _ _ (X0.trans c.ext) hz I' r
theorem ih_all (hA:AOk A d) (hC:CallsOk w C d) (n:Nat):IHs w A C n:=by
 induction n with
 | zero => constructor <;> intro <;> intros <;> contradiction
 | succ n H => exact ⟨stepE hA hC H,stepL H,stepD H,stepO H,stepT hA H,stepTs H,stepI hA H⟩
end
end
section
noncomputable def chkNs (R:List (PySem.Str × Nat)) (ts:List Expr):List Nat → Bool
 | [] => ts.isEmpty
 | x :: xs => !ts.isEmpty && isT 2 (hd ts) && R.lookup (view (hd ts)).s == some x && chkNs R ts.tail xs
theorem chkNs_cons {R:List (PySem.Str × Nat)} {ts:List Expr} {x:Nat} {xs:List Nat} (h:chkNs R ts (x :: xs) = true):∃ y p r,ts = .Name y p :: r ∧ R.lookup y = some x ∧ chkNs R r xs = true:=by
 obtain ⟨h1,h2,h3,h4⟩:=and_4 h
 exact ⟨_,_,_,(show hd ts = _ from isT_ h2) ▸ cons_hd h1,eq_of_beq h3,h4⟩
noncomputable def tupOk (ts:List Expr) (v:Expr):Bool:=!isT 9 v || isTwo ts && isTwo (view v).es && (isT 2 (hd ts) && isT 2 (hd2 ts)) && (notStar (hd (view v).es) && notStar (hd2 (view v).es)) && (!([hd (view v).es,hd2 (view v).es].all (foldedForSure 8)) && !([hd (view v).es,hd2 (view v).es].all (constantsAlone 8)))
noncomputable def augOk (a:Bop) (o:Operator):Bool:=match a with
 | .add => decide (o = .Add)
 | .sub => decide (o = .Sub)
 | _ => false
noncomputable def isA (t:Nat) (e:Stmt):Bool:=isS 1 e && isOne (viewS e).ts && isT t (hd (viewS e).ts)
theorem isA_ {t:Nat} {e:Stmt} (h:isA t e = true):e = .Assign [hd (viewS e).ts] (viewS e).a (viewS e).p ∧ Sp (hd (viewS e).ts) (view (hd (viewS e).ts)) t:=by
 obtain ⟨h1,h2,h3⟩:=and_3 h
 refine ⟨?_,isT_ h3⟩
 rw [← isOne_ h2];exact isS_ h1
noncomputable def tN (e:Stmt):PySem.Str:=(view (hd (viewS e).ts)).s
mutual
noncomputable def chkS:Nat → List PySem.Str → List PySem.Str → List (PySem.Str × Nat) → Stmt → S → Bool
 | 0,_,_,_,_,_ => false
 | n + 1,G,K,R,st,s => match s with
  | .asg x a => isA 2 st && R.lookup (tN st) == some x && match a with
   | .comp a b c d => isLC (viewS st).a && chkE n G K R (viewS st).a (.comp a b c d)
   | a => notComp (viewS st).a && chkE n G K R (viewS st).a a
  | .asgL x l => isA 2 st && R.lookup (tN st) == some x && isT 10 (viewS st).a && Nat.blt l.length 1000 && chkL n G K R (view (viewS st).a).es l
  | .asgD x l => isA 2 st && R.lookup (tN st) == some x && isT 12 (viewS st).a && Nat.blt l.length 15 && chkD n G K R (view (viewS st).a).os (view (viewS st).a).es l
  | .unp xs a => isA 9 st && chkNs R (view (hd (viewS st).ts)).es xs && notComp (viewS st).a && tupOk (view (hd (viewS st).ts)).es (viewS st).a && chkE n G K R (viewS st).a a
  | .aug x op a => isS 2 st && isT 2 (viewS st).a && R.lookup (view (viewS st).a).s == some x && augOk op (viewS st).o && chkE n G K R (viewS st).b a
  | .app x a => isS 3 st && isM ("append" : PySem.Str) (viewS st).a && (isT 2 (mO (viewS st).a) && R.lookup (view (mO (viewS st).a)).s == some x) && (isOne (view (viewS st).a).es && notStar (hd (view (viewS st).a).es)) && chkE n G K R (hd (view (viewS st).a).es) a
  | .set x a b => isA 7 st && (isT 2 (view (hd (viewS st).ts)).a && R.lookup (view (view (hd (viewS st).ts)).a).s == some x) && (notComp (viewS st).a && notSlice (view (hd (viewS st).ts)).b) && chkE n G K R (viewS st).a b && chkE n G K R (view (hd (viewS st).ts)).b a
  | .ifs t a b => isS 4 st && chkT n G K R (viewS st).a t && chkB n G K R (viewS st).bs a && chkB n G K R (viewS st).cs b
  | .for1 x it b => isS 5 st && (isT 2 (viewS st).a && R.lookup (view (viewS st).a).s == some x) && (viewS st).cs.isEmpty && chkI n G K R (viewS st).b it && chkB n G K R (viewS st).bs b
  | .forn xs it b => isS 5 st && (isT 9 (viewS st).a && chkNs R (view (viewS st).a).es xs) && (viewS st).cs.isEmpty && chkI n G K R (viewS st).b it && chkB n G K R (viewS st).bs b
  | .wh t b => isS 6 st && (viewS st).cs.isEmpty && chkT n G K R (viewS st).a t && chkB n G K R (viewS st).bs b
  | .ret a => isS 7 st && (viewS st).oe.isSome && chkE n G K R ((viewS st).oe.getD default) a
noncomputable def chkB:Nat → List PySem.Str → List PySem.Str → List (PySem.Str × Nat) → List Stmt → List S → Bool
 | 0,_,_,_,_,_ => false
 | n + 1,G,K,R,xs,es => match es with
  | [] => xs.isEmpty
  | e :: es => !xs.isEmpty && chkS n G K R (hd xs) e && chkB n G K R xs.tail es
end
noncomputable def Mut (penv:Env) (O:Nat → Addr) (e:Ev) (a:Addr):Prop:=a = penv.locals ∨ (∃ x,penv.cells.lookup x = some a) ∨ ∃ i s,getS e i = some s ∧ s.own = true ∧ O i = a
section
variable {w:World} {A:Around} {penv:Env} {G:List PySem.Str} {R:List (PySem.Str × Nat)} {N:Nat} {Z:Addr → Prop} {O:Nat → Addr} {ev ev':Ev} {s:Shared} {p:PV} {C:Calls} {d:Nat}
noncomputable def FlOk (w:World) (penv:Env) (Z:Addr → Prop) (O:Nat → Addr) (ev:Ev) (s:Shared):Fl → Flow → Prop
 | .next,f => f = .next
 | .ret p,f => ∃ v,f = .ret v ∧ Rep w s.heap (XS Z penv O ev) s.toks v p
structure After (w:World) (penv:Env) (R:List (PySem.Str × Nat)) (Z:Addr → Prop) (O:Nat → Addr) (ev:Ev) (s:Shared) (O':Nat → Addr) (ev':Ev) (s':Shared):Prop where
 chg:Chg (Mut penv O ev) noG s s'
 sz:s.heap.objs.size ≤ s'.heap.objs.size
 own:∀ b,Mut penv O' ev' b → Mut penv O ev b ∨ s.heap.get? b = none
 inv:Inv w penv R Z O' ev' s'.heap s'.toks
noncomputable def SndX (w:World) (A:Around) (penv:Env) (R:List (PySem.Str × Nat)) (Z:Addr → Prop) (O:Nat → Addr) (ev:Ev) (s:Shared) (t:Sem Flow) (fl:Fl) (ev':Ev):Prop :=
 ∀ (Q:Flow → Shared → Prop) (E:Value → Shared → Prop),(∀ s' f O',After w penv R Z O ev s O' ev' s' → FlOk w penv Z O' ev' s' fl f → Q f s') → wpAny (model pw w) A t Q E s
theorem mut_loc:Mut penv O ev penv.locals:=.inl rfl
theorem mut_xs {b:Addr} (h:Mut penv O ev b):XS Z penv O ev b:=.inr (.inr (h.imp id (.imp id id)))
theorem mut_le (l:Le ev ev') {b:Addr} (h:Mut penv O ev' b):Mut penv O ev b:=by
 rcases h with h | h | ⟨i,t,hg,ho,rfl⟩
 ·exact .inl h
 ·exact .inr (.inl h)
 ·exact .inr (.inr ⟨i,t,l.2 i t hg ho,ho,rfl⟩)
theorem After.refl (I:Inv w penv R Z O ev s.heap s.toks):After w penv R Z O ev s O ev s:=⟨Chg.refl s,Nat.le_refl _,fun _ h => .inl h,I⟩
theorem After.trans {s₁ s₂:Shared} {O₁ O₂:Nat → Addr} {ev₁ ev₂:Ev} (a:After w penv R Z O ev s O₁ ev₁ s₁) (b:After w penv R Z O₁ ev₁ s₁ O₂ ev₂ s₂):After w penv R Z O ev s O₂ ev₂ s₂:=by
 have key:∀ c,s₁.heap.get? c = none → Mut penv O ev c ∨ s.heap.get? c = none:=fun c h => by
  by_cases hm:Mut penv O ev c
  ·exact .inl hm
  ·cases q:s.heap.get? c with
   | none => exact .inr rfl
   | some o => rw [a.chg.heap c o hm q] at h;exact (sN h).elim
 refine ⟨a.chg.trans b.chg (fun c h => a.own c h) (fun i h => h.elim),Nat.le_trans a.sz b.sz,fun c h => ?_,b.inv⟩
 rcases b.own c h with h | h
 ·exact a.own c h
 ·exact key c h
theorem After.ofE {s₁:Shared} (x:Ext penv.locals s s₁) (z:s.heap.objs.size ≤ s₁.heap.objs.size) (l:Le ev ev') (I:Inv w penv R Z O ev' s₁.heap s₁.toks):After w penv R Z O ev s O ev' s₁ :=
 ⟨x.chg.mono (fun b h => .inl (h ▸ mut_loc)) (fun i h => h.elim),z,fun b h => .inl (mut_le l h),I⟩
theorem After.put {h':Heap} {tk:Tok} {O':Nat → Addr} (hk:∀ b o,b ≠ penv.locals → (∀ y,penv.cells.lookup y ≠ some b) → s.heap.get? b = some o → h'.get? b = some o) (ht:s.toks ≤ tk) (hz:s.heap.objs.size ≤ h'.objs.size)
  (ho:∀ b,Mut penv O' ev' b → Mut penv O ev b ∨ s.heap.get? b = none) (I:Inv w penv R Z O' ev' h' tk):After w penv R Z O ev s O' ev' { s with heap:=h',toks:=tk } :=
 ⟨⟨fun b o h e => hk b o (fun q => h (.inl q)) (fun y q => h (.inr (.inl ⟨y,q⟩))) e,fun _ _ _ e => e,fun _ _ e => .inl e,rfl,ht⟩,hz,ho,I⟩
theorem snd_put {x:PySem.Str} {v:Value} {i:Nat} {Q:Unit → Shared → Prop} {E:Value → Shared → Prop} (S:Stat penv G R N) (hN:ev.length = N) (hR:R.lookup x = some i) (I:Inv w penv R Z O ev s.heap s.toks) (hr:Rep w s.heap (XS Z penv O ev) s.toks v p)
  (hQ:∀ s',After w penv R Z O ev s O (setS ev i (.val p)) s' → Q () s'):wpAny (model pw w) A (storeName penv x v) Q E s :=
 wpAny_grow (put_val S hN hR I hr fun h' tk I' hk _ ht hz _ => hQ _ (After.put hk ht hz (fun b h => .inl (mut_le Le.froz h)) I'))
theorem snd_putOwn {x:PySem.Str} {D:Addr} {i:Nat} {t:Slot} {Q:Unit → Shared → Prop} {E:Value → Shared → Prop} (S:Stat penv G R N) (hN:ev.length = N) (hR:R.lookup x = some i) (I:Inv w penv R (fun a => Z a ∨ a = D) O ev s.heap s.toks) (ho:t.own = true)
  (low:188 ≤ D) (hD:¬ XS Z penv O ev D) (hex:∃ o,s.heap.get? D = some o) (hr:SlotRep w s.heap (XS (fun a => Z a ∨ a = D) penv O ev) s.toks D (.ref D) t)
  (hQ:∀ s' O',(∀ b,Mut penv O' (setS ev i t) b → Mut penv O ev b ∨ b = D) → Chg (Mut penv O ev) noG s s' → s.heap.objs.size ≤ s'.heap.objs.size → Inv w penv R Z O' (setS ev i t) s'.heap s'.toks → Q () s'):wpAny (model pw w) A (storeName penv x (.ref D)) Q E s:=by
 have hmut:∀ b,Mut penv (fun j => if j = i then D else O j) (setS ev i t) b → Mut penv O ev b ∨ b = D:=by
  rintro b (h | h | ⟨j,u,hg,hu,rfl⟩)
  ·exact .inl (.inl h)
  ·exact .inl (.inr (.inl h))
  ·rw [getS_setS] at hg
   split at hg
   ·rename_i hij;right;simp [hij.1]
   ·rename_i hij
    by_cases hji:j = i
    ·subst hji;exact absurd ⟨rfl,getS_lt hg⟩ hij
    ·left;simp only [hji,if_false];exact .inr (.inr ⟨j,u,hg,hu,rfl⟩)
 have hsub:∀ b,XS Z penv (fun j => if j = i then D else O j) (setS ev i t) b → XS (fun a => Z a ∨ a = D) penv O ev b:=by
  rintro b (h | h | h)
  ·exact .inl h
  ·exact xs_z (.inl h)
  ·rcases hmut b h with h | h
   ·exact mut_xs h
   ·exact xs_z (.inr h)
 refine wpAny_grow (put_slot (O':=fun j => if j = i then D else O j) (Z:=Z) S hN hR I (fun j hj => by simp [hj]) (fun b h => .inl h) hsub ?_ (fun _ => ?_) fun h' tk I' hk _ ht hz _ => ?_)
 ·simp only [if_true]
  exact hr.chg (fun b o _ e => e) (fun b h => .inl (hsub b h)) (Nat.le_refl _) (fun _ o e => e)
 ·simp only [if_true]
  exact ⟨fun q => hD (q ▸ xs_loc),low,fun y q => hD (xs_cell q),hex,fun q => hD (xs_z q),fun j u hg hu q => hD (q ▸ xs_own hg hu)⟩
 ·exact hQ _ _ hmut ⟨fun b o h e => hk b o (fun q => h (.inl q)) (fun y q => h (.inr (.inl ⟨y,q⟩))) e,fun _ _ _ e => e,fun _ _ e => .inl e,rfl,ht⟩ hz I'
end
end
section
section
variable {w:World} {A:Around} {penv:Env} {G K:List PySem.Str} {R:List (PySem.Str × Nat)} {N:Nat} {Z:Addr → Prop} {O:Nat → Addr} {ev ev':Ev} {s:Shared} {p:PV} {C:Calls} {n d:Nat}
theorem swaps_false {v:Expr} {t:Option Expr} {l:Nat} {env:Env} (h:notComp v = true):swapsWith v t l env = pure false:=by
 cases v <;> first | rfl | (exfalso;revert h;exact Bool.false_ne_true)
theorem FlOk.next {s':Shared} {O':Nat → Addr}:FlOk w penv Z O' ev' s' .next .next:=rfl
theorem snd_asg {x i:Nat} {y:PySem.Str} {py pos:Pos} {v:Expr} (S:Stat penv G R N) (hN:ev.length = N) (L1:Le ev ev') (hR:R.lookup y = some x) (hnc:notComp v = true) (h:SndE w A penv R Z O s (eval v penv) p ev') :
  SndX w A penv R Z O ev s (exec (.Assign [.Name y py] v pos) penv) .next (setS ev' x (.val p)):=by
 intro Q E hQ
 refine wpAny_Assign_Name (h.mono fun s₁ u X1 z1 I1 r1 => ?_) (swaps_false hnc)
 exact snd_put S (L1.len hN) hR I1 r1 fun s₂ a => hQ s₂ _ O ((After.ofE X1 z1 L1 I1).trans a) rfl
theorem snd_ret {v:Expr} {pos:Pos} (L1:Le ev ev') (h:SndE w A penv R Z O s (eval v penv) p ev'):SndX w A penv R Z O ev s (exec (.Return (some v) pos) penv) (.ret p) ev':=by
 intro Q E hQ
 exact wpAny_Return_some (h.mono fun s₁ u X1 z1 I1 r1 => hQ s₁ _ O (After.ofE X1 z1 L1 I1) ⟨u,rfl,r1⟩)
theorem snd_asgL {x:Nat} {y:PySem.Str} {py lp pos:Pos} {es:List Expr} {ps:List PV} (S:Stat penv G R N) (hN:ev.length = N) (L1:Le ev ev') (hR:R.lookup y = some x) (hlen:ps.length < 1000) (h:SndL w A penv R Z O s (spliced (backTo lp (starEach es penv))) ps ev') :
  SndX w A penv R Z O ev s (exec (.Assign [.Name y py] (.List es lp) pos) penv) .next (setS ev' x (.ownL ps)):=by
 intro Q E hQ
 refine wpAny_Assign_Name (wpAny_List (h _ _ fun s₁ vs X1 z1 I1 r1 => ⟨?_,?_⟩)) rfl
 ·have:=r1.length;rw [show sizeLine = 16777216 from rfl];lia
 ·have Ih:=I1.hold { cls:=.type "list",data:=.seq vs.toArray }
  have X2:=Ext.pushS penv.locals s₁ { cls:=.type "list",data:=.seq vs.toArray }
  have I2:=I1.ext S X2 push_le
  have hDx:¬ XS Z penv O ev' s₁.heap.objs.size:=fun q => absurd (I1.lx _ q) (Nat.lt_irrefl _)
  have A1:=After.ofE (X1.trans X2) (Nat.le_trans z1 push_le) L1 I2
  refine snd_putOwn (t:=.ownL ps) (s:={ s₁ with heap:=s₁.heap.push { cls:=.type "list",data:=.seq vs.toArray } }) S (L1.len hN) hR Ih rfl (kf_size I1.base) hDx ⟨_,Heap.get?_push_size _ rfl⟩ ⟨rfl,vs,0,Heap.get?_push_size _ rfl,?_⟩ fun s₂ O' hm c z I3 => ?_
  ·refine r1.mono (fun b o _ e => Heap.get?_push_of_some _ e) (fun b q => ?_) (Nat.le_refl _)
   rcases q with q | q | q
   ·exact .inl (.inl q)
   ·rcases q with q | rfl
    ·exact .inl (xs_z q)
    ·exact .inr (fresh_none _)
   ·exact .inl (.inr (.inr q))
  ·refine hQ s₂ _ O' ⟨A1.chg.trans c (fun b q => .inl (mut_le L1 q)) (fun i q => q.elim),Nat.le_trans A1.sz z,fun b q => ?_,I3⟩ rfl
   rcases hm b q with q | rfl
   ·exact .inl (mut_le L1 q)
   ·exact .inr (Heap.get?_none_of_le z1)
theorem snd_asgD {x:Nat} {y:PySem.Str} {py dp pos:Pos} {ks:List (Option Expr)} {vs:List Expr} {l:List (Int × PV)} (S:Stat penv G R N) (hN:ev.length = N) (L1:Le ev ev') (I:Inv w penv R Z O ev s.heap s.toks) (hR:R.lookup y = some x) (hnd:(l.map (·.1)).Nodup) (hlen:ks.length ≤ 15)
  (hall:ks.all (·.isSome) = true) (hl:ks.length = vs.length) (h0:ks = [] → l = [] ∧ ev' = ev) (h:∀ s₁ Z₁,Inv w penv R Z₁ O ev s₁.heap s₁.toks → SndP w A penv R Z₁ O s₁ (evalPairs (pairTrees ks vs penv dp)) l ev') :
  SndX w A penv R Z O ev s (exec (.Assign [.Name y py] (.Dict ks vs dp) pos) penv) .next (setS ev' x (.ownD l)):=by
 intro Q E hQ
 refine wpAny_Assign_Name ?_ rfl
 have fin:∀ s₁ D,Ext penv.locals s s₁ → s.heap.objs.size ≤ s₁.heap.objs.size → Inv w penv R (fun a => Z a ∨ a = D) O ev' s₁.heap s₁.toks → s.heap.objs.size ≤ D → ¬ XS Z penv O ev' D → SlotRep w s₁.heap (XS (fun a => Z a ∨ a = D) penv O ev') s₁.toks D (.ref D) (.ownD l) →
   wpAny (model pw w) A (storeName penv y (.ref D)) (fun _ => Q .next) E s₁:=by
  intro s₁ D X1 z1 I1 hD hDx r
  have hexD:∃ o,s₁.heap.get? D = some o:=by obtain ⟨_,_,_,⟨o,_,e,_⟩,_⟩:=r;exact ⟨o,e⟩
  have I1':=I1.less (Z:=Z) fun _ => .inl
  have A1:=After.ofE X1 z1 L1 I1'
  refine snd_putOwn (t:=.ownD l) S (L1.len hN) hR I1 rfl (Nat.le_trans (kf_size I.base) hD) hDx hexD r fun s₂ O' hm c z I3 => ?_
  ·refine hQ s₂ _ O' ⟨A1.chg.trans c (fun b q => .inl (mut_le L1 q)) (fun i q => q.elim),Nat.le_trans A1.sz z,fun b q => ?_,I3⟩ rfl
   rcases hm b q with q | rfl
   ·exact .inl (mut_le L1 q)
   ·exact .inr (Heap.get?_none_of_le hD)
 by_cases hk:ks = []
 ·subst hk
  obtain ⟨rfl,rfl⟩:=h0 rfl
  obtain rfl:vs = []:=List.length_eq_zero_iff.mp hl.symm
  refine wpAny_Dict_empty (fin _ _ (Ext.pushS _ s _) push_le (I.hold _) (Nat.le_refl _) (fun q => absurd (I.lx _ q) (Nat.lt_irrefl _)) ⟨rfl,[],0,⟨_,#[],Heap.get?_push_size _ rfl,⟨rfl,rfl,rfl⟩,rfl,?_,.nil,by simp⟩,sysMod_ne (kf_size I.base),rfl,.nil⟩)
  intro e he;simp at he
 ·exact snd_dict S I L1 hall hl hk hlen hnd h _ _ fun s₁ D X1 z1 I1 hD1 hD2 hDx r => fin s₁ D X1 z1 I1 hD1 hDx r
end
end
section
section
variable {w:World} {A:Around} {penv:Env} {G K:List PySem.Str} {R:List (PySem.Str × Nat)} {N:Nat} {Z:Addr → Prop} {O:Nat → Addr} {ev ev':Ev} {s:Shared} {p:PV} {C:Calls} {n d:Nat}
theorem Reps.after {s':Shared} {vs:List Value} {ps:List PV} {O':Nat → Addr} (r:Reps w s.heap (XS Z penv O ev) s.toks vs ps) (a:After w penv R Z O ev s O' ev' s'):Reps w s'.heap (XS Z penv O' ev') s'.toks vs ps:=by
 refine r.mono (fun b o nx e => a.chg.heap b o (fun q => nx (mut_xs q)) e) (fun b q => ?_) a.chg.tk
 rcases q with q | q | q
 ·exact .inl (.inl q)
 ·exact .inl (xs_z q)
 ·exact (a.own b q).imp mut_xs id
theorem Rep.after {s':Shared} {v:Value} {O':Nat → Addr} (r:Rep w s.heap (XS Z penv O ev) s.toks v p) (a:After w penv R Z O ev s O' ev' s'):Rep w s'.heap (XS Z penv O' ev') s'.toks v p:=by
 obtain ⟨_,e,r⟩:=(Reps.after (.cons r .nil) a).oneE
 cases e;exact r
theorem setS_len {e:Ev} {i:Nat} {t:Slot}:(setS e i t).length = e.length:=by simp [setS]
theorem setMany_len {xs:List Nat}:∀ {ps:List PV} {e e':Ev},setMany e xs ps = some e' → e'.length = e.length ∧ xs.length = ps.length:=by
 induction xs with
 | nil =>
  intro ps e e' h
  cases ps <;> cases h
  exact ⟨rfl,rfl⟩
 | cons x xs ih =>
  intro ps e e' h
  cases ps with
  | nil => exact (nS h).elim
  | cons p ps =>
   obtain ⟨h1,h2⟩:=ih (e:=setS e x (.val p)) h
   exact ⟨h1.trans setS_len,congrArg (· + 1) h2⟩
theorem store_many (S:Stat penv G R N) (xs:List Nat):∀ (ts:List Expr) (vs:List Value) (ps:List PV) (ev ev':Ev) (s:Shared) (Q:Unit → Shared → Prop) (E:Value → Shared → Prop),ev.length = N → chkNs R ts xs = true → Reps w s.heap (XS Z penv O ev) s.toks vs ps → setMany ev xs ps = some ev' →
  Inv w penv R Z O ev s.heap s.toks → (∀ s',After w penv R Z O ev s O ev' s' → Q () s') → wpAny (model pw w) A (assignInOrder ((assignEach ts penv).map (·.2)) vs) Q E s:=by
 induction xs with
 | nil =>
  intro ts vs ps ev ev' s Q E hN hc hr hs I hQ
  obtain rfl:=List.isEmpty_iff.mp hc
  cases ps with
  | cons => exact (nS hs).elim
  | nil =>
   obtain rfl:=hr.nilE
   cases hs
   exact wpAny_assignInOrder_none (hQ s (After.refl I))
 | cons x xs ih =>
  intro ts vs ps ev ev' s Q E hN hc hr hs I hQ
  cases ps with
  | nil => exact (nS hs).elim
  | cons p ps =>
   obtain ⟨v,us,rfl,r1,r2⟩:=hr.consE
   obtain ⟨y,py,r,rfl,h1,h2⟩:=chkNs_cons hc
   refine wpAny_assignInOrder_more (wpAny_assign_Name (snd_put S hN h1 I r1 fun s₁ a => ?_))
   exact ih _ _ ps (setS ev x (.val p)) ev' s₁ Q E (by rw [setS_len];exact hN) h2 (r2.after a) hs a.inv fun s' b => hQ s' (a.trans b)
end
end
section
section
variable {w:World} {A:Around} {penv:Env} {G K:List PySem.Str} {R:List (PySem.Str × Nat)} {N:Nat} {Z:Addr → Prop} {O:Nat → Addr} {ev ev':Ev} {s:Shared} {p:PV} {C:Calls} {n d:Nat}
theorem chkNs_star {xs:List Nat}:∀ {ts:List Expr},chkNs R ts xs = true → (assignEach ts penv).length = xs.length ∧ (assignEach ts penv).findIdx? (·.1) = none:=by
 induction xs with
 | nil => intro ts h;obtain rfl:=List.isEmpty_iff.mp h;exact ⟨rfl,rfl⟩
 | cons x xs ih =>
  intro ts h
  obtain ⟨y,py,r,rfl,_,h⟩:=chkNs_cons h
  obtain ⟨h1,h2⟩:=ih h
  refine ⟨congrArg (· + 1) h1,?_⟩
  show List.findIdx? (·.1) ((false,assign (.Name y py) penv) :: assignEach r penv) = none
  rw [List.findIdx?_cons,h2];rfl
theorem assign_tup {elts:List Expr} {kk:Nat} {pos:Pos} {t:Addr} {items:Array Value} {Q:Unit → Shared → Prop} {E:Value → Shared → Prop} (hh:A.handled = none) (ht:s.heap.IsTuple t items)
  (hn:(assignEach elts penv).length = items.size) (hstar:(assignEach elts penv).findIdx? (·.1) = none)
  (h:∀ h',Heap.ExtBut s.heap.objs.size s.heap h' → s.heap.objs.size ≤ h'.objs.size → wpAny (model pw w) A (assignInOrder ((assignEach elts penv).map (·.2)) items.toList) Q E { s with heap:=h' }) :
  wpAny (model pw w) A (assign (.Tuple elts kk pos) penv (.ref t)) Q E s:=by
 rw [arm_assign_Tuple]
 refine wpAny_bind (wpAny_standAt ?_)
 unfold unpack
 rw [hn,hstar]
 exact wpAny_bind (wpAny_holding (wpAny_grow (PyProof.Rows.unpackItems_tuple hh ht fun h' he hz _ => h h' he hz)))
theorem ext_of_but {h':Heap} (he:Heap.ExtBut s.heap.objs.size s.heap h'):Ext penv.locals s { s with heap:=h' } :=
 Ext.keep (tk:=s.toks) (fun b o e => he b o (Nat.ne_of_lt (Heap.lt_size e)) e) (Nat.le_refl _)
theorem store_tup {ts:List Expr} {xs:List Nat} {kk:Nat} {pos:Pos} {v:Value} {ps:List PV} {Q:Unit → Shared → Prop} {E:Value → Shared → Prop} (hA:A.handled = none) (S:Stat penv G R N) (hN:ev.length = N) (hc:chkNs R ts xs = true)
  (hr:Rep w s.heap (XS Z penv O ev) s.toks v (.tup ps)) (hs:setMany ev xs ps = some ev') (I:Inv w penv R Z O ev s.heap s.toks) (hQ:∀ s',After w penv R Z O ev s O ev' s' → Q () s') :
  wpAny (model pw w) A (assign (.Tuple ts kk pos) penv v) Q E s:=by
 obtain ⟨a,vs,rfl,ha,hx,hr⟩:=hr.tupE
 ·obtain ⟨h1,h2⟩:=chkNs_star (penv:=penv) hc
  obtain ⟨_,h3⟩:=setMany_len hs
  refine assign_tup hA ha (by rw [h1,h3];simpa using hr.length.symm) h2 fun h' he hz => ?_
  have X:=ext_of_but (penv:=penv) he
  have I':=I.ext S X hz
  refine store_many S xs ts _ ps ev ev' _ Q E hN hc (hr.go X (Le.refl _)) hs I' fun s' a => hQ s' ?_
  exact (After.ofE X hz (Le.refl _) I').trans a
theorem swapsSole_false {v:Expr} {t:Expr} {l:Nat} {env:Env} (h:notComp v = true):swapsWithSole [t] v l env = pure false:=by unfold swapsWithSole;exact swaps_false h
theorem set_comm {e:Ev} {i j:Nat} {a b:Slot} (h:i ≠ j):setS (setS e i a) j b = setS (setS e j b) i a:=by
 unfold setS;exact List.set_comm _ _ h
noncomputable def Swap (R:List (PySem.Str × Nat)) (penv:Env) (ts:List Expr) (xs:List Nat) (t v:Expr):Prop :=
 swappedStores [t] v penv = pure none ∨ ∃ y p y' p' x x',ts = [.Name y p,.Name y' p'] ∧ xs = [x,x'] ∧ R.lookup y = some x ∧ R.lookup y' = some x' ∧ y ≠ y' ∧ swappedStores [t] v penv = pure (some [y,y'])
theorem chkNs_two {a b:Expr} {xs:List Nat} (hc:chkNs R [a,b] xs = true):∃ y p y' p' x x',a = .Name y p ∧ b = .Name y' p' ∧ xs = [x,x'] ∧ R.lookup y = some x ∧ R.lookup y' = some x':=by
 cases xs with
 | nil => exact absurd hc Bool.false_ne_true
 | cons x xs =>
  obtain ⟨y,p,r,e,h1,hc⟩:=chkNs_cons hc
  cases e
  cases xs with
  | nil => exact absurd hc Bool.false_ne_true
  | cons x' xs =>
   obtain ⟨y',p',r,e,h2,hc⟩:=chkNs_cons hc
   cases e
   cases xs with
   | nil => exact ⟨y,p,y',p',x,x',rfl,rfl,rfl,h1,h2⟩
   | cons => exact absurd hc Bool.false_ne_true
theorem star_any {a b:Expr} {f:Expr → Bool} (ha:notStar a = true) (hb:notStar b = true) (hf:∀ e,notStar e = true → f e = false):¬ [a,b].any f = true:=by
 rw [show [a,b].any f = (f a || (f b || false)) from rfl,hf a ha,hf b hb];decide
theorem names_of {y y':PySem.Str} {l:List PySem.Str} {t:Expr} {v:Expr} {xs:List Nat} {p p':Pos} {x x':Nat} {g:Bool} (hx:xs = [x,x']) (e1:R.lookup y = some x) (e2:R.lookup y' = some x') (hn:l = [y,y'] ∨ l.length < 2)
  (key:swappedStores [t] v penv = (if g = true then pure none else if (l.length != 2 || l.eraseDups.length != l.length) = true then pure none else pure (some l))):Swap R penv [.Name y p,.Name y' p'] xs t v:=by
 by_cases hg:g = true
 ·rw [if_pos hg] at key;exact .inl key
 ·rw [if_neg hg] at key
  by_cases h:(l.length != 2 || l.eraseDups.length != l.length) = true
  ·rw [if_pos h] at key;exact .inl key
  ·rw [if_neg h] at key
   rcases hn with rfl | hn
   ·refine .inr ⟨y,p,y',p',x,x',rfl,hx,e1,e2,?_,key⟩
    rintro rfl
    exact h (by simp [List.eraseDups_cons])
   ·exact absurd (by rw [Bool.or_eq_true];exact .inl (bne_iff_ne.mpr (Nat.ne_of_lt hn))) h
theorem ifs5 {α:Type} {c1 c2 c3 c4 c5:Bool} {n u r:α} (h2:c2 = false) (h4:c4 = false) (h5:c5 = false):(if c1 then n else if c2 then n else if c3 then n else if c4 then n else if c5 then u else r) = if c1 then n else if c3 then n else r:=by
 subst h2 h4 h5;rfl
theorem fm2 {α β:Type} {f:α → Option β} {a b:α} {y y':β} {c1 c2:Bool} (h1:f a = if c1 then some y else none) (h2:f b = if c2 then some y' else none):List.filterMap f [a,b] = [y,y'] ∨ (List.filterMap f [a,b]).length < 2:=by
 rw [List.filterMap_cons,List.filterMap_cons,h1,h2]
 cases c1 <;> cases c2
 ·exact .inr Nat.two_pos
 ·exact .inr Nat.one_lt_two
 ·exact .inr Nat.one_lt_two
 ·exact .inl rfl
theorem swapped_cases {ts:List Expr} {xs:List Nat} {v:Expr} {kk:Nat} {tp:Pos} (hc:chkNs R ts xs = true) (ht:tupOk ts v = true):Swap R penv ts xs (.Tuple ts kk tp) v:=by
 by_cases h9:isT 9 v = true
 ·unfold tupOk at ht
  rw [h9] at ht
  obtain ⟨h1,h2,h3,h4,h5⟩:=and_5 ht
  obtain ⟨ha,hb⟩:=and_2 h4
  obtain ⟨hf,hcn⟩:=and_2 h5
  rw [Bool.not_eq_true'] at hf hcn
  rw [isTwo_ h1] at hc ⊢
  obtain ⟨y,p,y',p',x,x',j1,j2,hx,e1,e2⟩:=chkNs_two hc
  rw [j1,j2,show v = _ from isT_ h9,isTwo_ h2]
  have hnm:∃ names:List PySem.Str,(names = [y,y'] ∨ names.length < 2) ∧ ∃ g:Bool,swappedStores [.Tuple [.Name y p,.Name y' p'] kk tp] (.Tuple [hd (view v).es,hd2 (view v).es] (view v).kd (view v).p) penv =
    (if g = true then pure none else if (names.length != 2 || names.eraseDups.length != names.length) = true then pure none else pure (some names)):=by
   have h2:∀ f:Expr → Bool,(∀ e,notStar e = true → f e = false) → List.any [hd (view v).es,hd2 (view v).es] f = false:=fun f hf' => Bool.eq_false_iff.mpr (star_any ha hb hf')
   refine ⟨_,?_,_,ifs5 (h2 _ ?_) hf hcn⟩
   ·exact fm2 rfl rfl
   ·intro e he;cases e <;> first | rfl | exact absurd he Bool.false_ne_true
  obtain ⟨names,hn,g,key⟩:=hnm
  exact names_of hx e1 e2 hn key
 ·refine .inl ?_
  cases v <;> first | rfl | exact absurd rfl h9
theorem setMany_two {e:Ev} {x x':Nat} {ps:List PV} (h:setMany e [x,x'] ps = some ev'):∃ p q,ps = [p,q]:=by
 have:=(setMany_len h).2
 match ps,this with
 | [p,q],_ => exact ⟨p,q,rfl⟩
theorem snd_unp {ts:List Expr} {xs:List Nat} {kk:Nat} {tp pos:Pos} {v:Expr} {ps:List PV} {ev₁:Ev} (hA:A.handled = none) (S:Stat penv G R N) (hN:ev.length = N) (L1:Le ev ev₁) (hc:chkNs R ts xs = true) (hnc:notComp v = true) (ht:tupOk ts v = true)
  (hs:setMany ev₁ xs ps = some ev') (h:SndE w A penv R Z O s (eval v penv) (.tup ps) ev₁):SndX w A penv R Z O ev s (exec (.Assign [.Tuple ts kk tp] v pos) penv) .next ev':=by
 intro Q E hQ
 rcases swapped_cases (penv:=penv) (kk:=kk) (tp:=tp) hc ht with hw | ⟨y,p,y',p',x,x',rfl,rfl,e1,e2,hne,hw⟩
 ·refine PyProof.Rows.Assign_Tuple (h.mono fun s₁ u X1 z1 I1 r1 => ?_) (swapsSole_false hnc) hw
  exact store_tup hA S (L1.len hN) hc r1 hs I1 fun s' a => hQ s' _ O ((After.ofE X1 z1 L1 I1).trans a) rfl
 ·refine PyProof.Rows.Assign_Tuple_swapped (h.mono fun s₁ u X1 z1 I1 r1 => ?_) (swapsSole_false hnc) hw
  obtain ⟨a,vs,rfl,ha,_,hr⟩:=r1.tupE
  obtain ⟨p1,p2,rfl⟩:=setMany_two hs
  obtain ⟨_,us,rfl,r1,hr⟩:=hr.consE
  obtain ⟨_,rfl,r2⟩:=hr.oneE
  refine wpAny_grow (PyProof.Rows.unpackItems_tuple (items:=#[_,_]) hA ha fun h' he hz _ => ?_)
  have X:=ext_of_but (penv:=penv) he
  have I':=I1.ext S X hz
  have hx:x ≠ x':=fun q => hne (S.inj _ _ _ e1 (q ▸ e2))
  cases hs
  have r1':=r1.go X (Le.refl _)
  have r2':=r2.go X (Le.refl _)
  refine wpAny_assignInOrder_more (PyProof.Rows.bindName_ (snd_put S (L1.len hN) e2 I' r2' fun s₂ a₂ => ?_))
  refine wpAny_assignInOrder_more (PyProof.Rows.bindName_ (snd_put S (by rw [setS_len];exact L1.len hN) e1 a₂.inv (r1'.after a₂) fun s₃ a₃ => ?_))
  refine wpAny_assignInOrder_none (hQ s₃ _ O ?_ rfl)
  have a:=((After.ofE X1 z1 L1 I1).trans (After.ofE X hz (Le.refl _) I')).trans (a₂.trans a₃)
  rw [set_comm hx.symm] at a
  exact a
end
end
section
noncomputable def PutOk (w:World) (h:Heap) (X:Addr → Prop) (n:Nat) (i:Int) (v:Value) (p:PV) (kvs:List (Int × Value)) (l:List (Int × PV)):Prop :=
 (stored kvs i v).map (·.1) = (putI i p l).map (·.1) ∧ Reps w h X n ((stored kvs i v).map (·.2)) ((putI i p l).map (·.2))
theorem stored_eq {j:Int} {u v:Value} {kvs:List (Int × Value)} (nd:j ∉ kvs.map (·.1)):stored ((j,u) :: kvs) j v = (j,v) :: kvs:=by
 have hself:kvs.map (fun kv => if kv.1 = j then (kv.1,v) else kv) = kvs:=by
  refine (List.map_congr_left (g:=id) fun kv hkv => ?_).trans (List.map_id _)
  rw [if_neg fun q => nd (List.mem_map.mpr ⟨kv,hkv,q⟩)];rfl
 unfold stored
 rw [if_pos (by simp),List.map_cons,hself];simp
theorem stored_ne {i j:Int} {u v:Value} {kvs:List (Int × Value)} (hj:j ≠ i):stored ((j,u) :: kvs) i v = (j,u) :: stored kvs i v:=by
 unfold stored
 rw [List.any_cons]
 simp only [hj,decide_false,Bool.false_or,List.map_cons,if_false]
 split <;> rfl
theorem put_keys {w:World} {h:Heap} {X:Addr → Prop} {n:Nat} {i:Int} {v:Value} {p:PV} (hv:Rep w h X n v p) (kvs:List (Int × Value)):∀ (l:List (Int × PV)),kvs.map (·.1) = l.map (·.1) → (kvs.map (·.1)).Nodup → Reps w h X n (kvs.map (·.2)) (l.map (·.2)) → PutOk w h X n i v p kvs l:=by
 induction kvs with
 | nil =>
  intro l e _ _
  cases l with
  | nil => exact ⟨rfl,.cons hv .nil⟩
  | cons => cases e
 | cons kv kvs ih =>
  intro l e nd r
  cases l with
  | nil => cases e
  | cons q l =>
   injection e with e1 e2
   rw [List.map_cons,List.nodup_cons] at nd
   obtain ⟨_,_,e',r1,r2⟩:=r.consE
   injection e' with e3 e4
   by_cases hj:kv.1 = i
   ·subst hj
    rw [PutOk,stored_eq (u:=kv.2) nd.1,show putI kv.1 p (q :: l) = (q.1,p) :: l from if_pos (decide_eq_true e1.symm)]
    exact ⟨congr (congrArg List.cons e1) e2,.cons hv (e4 ▸ r2)⟩
   ·obtain ⟨a,b⟩:=ih l e2 nd.2 (e4 ▸ r2)
    rw [PutOk,stored_ne (u:=kv.2) hj,show putI i p (q :: l) = q :: putI i p l from if_neg fun z => hj (e1.trans (of_decide_eq_true z))]
    exact ⟨congr (congrArg List.cons e1) a,.cons (e3 ▸ r1) b⟩
section
variable {w:World} {A:Around} {penv:Env} {G K:List PySem.Str} {R:List (PySem.Str × Nat)} {N:Nat} {Z:Addr → Prop} {O:Nat → Addr} {ev ev':Ev} {s:Shared} {p:PV} {C:Calls} {n d:Nat}
theorem xs_setOwn {i:Nat} {t t':Slot} (hg:getS ev i = some t) (ho:t.own = true) {b:Addr} (h:XS Z penv O (setS ev i t') b):XS Z penv O ev b:=by
 rcases h with h | h | h | h | ⟨j,u,hj,hu,rfl⟩
 ·exact .inl h
 ·exact .inr (.inl h)
 ·exact .inr (.inr (.inl h))
 ·exact .inr (.inr (.inr (.inl h)))
 ·rw [getS_setS] at hj
  split at hj
  ·rename_i q;rw [← q.1];exact xs_own hg ho
  ·exact xs_own hj hu
theorem mut_setOwn {i:Nat} {t t':Slot} (hg:getS ev i = some t) (ho:t.own = true) {b:Addr} (h:Mut penv O (setS ev i t') b):Mut penv O ev b:=by
 rcases h with h | h | ⟨j,u,hj,hu,rfl⟩
 ·exact .inl h
 ·exact .inr (.inl h)
 ·rw [getS_setS] at hj
  split at hj
  ·rename_i q;rw [← q.1];exact .inr (.inr ⟨i,t,hg,ho,rfl⟩)
  ·exact .inr (.inr ⟨j,u,hj,hu,rfl⟩)
theorem Inv.ownSet {h h':Heap} {m tk:Tok} {i:Nat} {t t':Slot} (S:Stat penv G R N) (I:Inv w penv R Z O ev h m) (hsz:188 ≤ h.objs.size) (hg:getS ev i = some t) (ho:t.own = true) (ho':t'.own = true) (hs:Heap.SameBut (O i) h h') (hn:m ≤ tk) (hx:∃ o,h'.get? (O i) = some o)
  (hr:∀ v,SlotRep w h (XS Z penv O ev) m (O i) v t → SlotRep w h' (XS Z penv O (setS ev i t')) tk (O i) v t'):Inv w penv R Z O (setS ev i t') h' tk:=by
 obtain ⟨n1,n2,n3,⟨o,n4⟩,n5⟩:=I.ne i t hg ho
 have hk:∀ b o,b ≠ O i → h.get? b = some o → h'.get? b = some o:=fun b o hb e => (hs.2 b hb).trans e
 have hnm:∀ y v,NameAt penv h y v → NameAt penv h' y v:=by
  rintro y v (⟨k',m',a,b⟩ | ⟨k',c,a,b⟩)
  ·exact .inl ⟨k',m',a.sameBut hs n1.symm,b⟩
  ·exact .inr ⟨k',c,a,b.sameBut hs fun q => n3 y (q ▸ a)⟩
 refine ⟨Nat.le_trans I.pos hn,fun a o q => hk a o (by rintro rfl;exact absurd (kf_lt q) (Nat.not_lt.mpr n2)) (I.base a o q),?_,fun a z => by rw [hs.1];exact I.zex a z,fun x c hc => ?_,fun y j u hy hj => ?_,fun a b u u' ha hu hb hu' q => ?_,fun j u hj hu => ?_⟩
 ·obtain ⟨m',q⟩:=I.ns;exact ⟨m',q.sameBut hs n1.symm⟩
 ·obtain ⟨v,q⟩:=I.cells x c hc;exact ⟨v,q.sameBut hs fun q => n3 x (q ▸ hc)⟩
 ·rw [getS_setS] at hj
  split at hj
  ·rename_i q
   obtain ⟨rfl,_⟩:=q
   cases hj
   obtain ⟨v,nm,r⟩:=I.vars y i t hy hg
   exact ⟨v,hnm y v nm,hr v r⟩
  ·rename_i q
   obtain ⟨v,nm,r⟩:=I.vars y j u hy hj
   have hji:j ≠ i:=fun z => q ⟨z.symm,getS_lt hg⟩
   exact ⟨v,hnm y v nm,r.chg (fun b o nx e => hk b o (fun z => nx (z ▸ xs_own hg ho)) e) (fun b z => .inl (xs_setOwn hg ho z)) hn fun hu o e => hk _ o (fun z => hji (I.inj j i u t hj hu hg ho z)) e⟩
 ·have own:∀ j u,getS (setS ev i t') j = some u → u.own = true → ∃ u',getS ev j = some u' ∧ u'.own = true:=fun j u hj hu => by
   rw [getS_setS] at hj
   split at hj
   ·rename_i q;exact ⟨t,q.1 ▸ hg,ho⟩
   ·exact ⟨u,hj,hu⟩
  obtain ⟨u1,e1,f1⟩:=own a u ha hu
  obtain ⟨u2,e2,f2⟩:=own b u' hb hu'
  exact I.inj a b u1 u2 e1 f1 e2 f2 q
 ·rw [getS_setS] at hj
  split at hj
  ·rename_i q
   obtain ⟨rfl,_⟩:=q
   exact ⟨n1,n2,n3,hx,n5⟩
  ·rename_i q
   have hji:j ≠ i:=fun z => q ⟨z.symm,getS_lt hg⟩
   obtain ⟨a1,a2,a3,⟨o',a4⟩,a5⟩:=I.ne j u hj hu
   exact ⟨a1,a2,a3,⟨o',hk _ o' (fun z => hji (I.inj j i u t hj hu hg ho z)) a4⟩,a5⟩
theorem After.ownSet {h':Heap} {tk:Tok} {i:Nat} {t t':Slot} (S:Stat penv G R N) (I:Inv w penv R Z O ev s.heap s.toks) (hg:getS ev i = some t) (ho:t.own = true) (ho':t'.own = true) (hs:Heap.SameBut (O i) s.heap h') (hn:s.toks ≤ tk) (hx:∃ o,h'.get? (O i) = some o)
  (hr:∀ v,SlotRep w s.heap (XS Z penv O ev) s.toks (O i) v t → SlotRep w h' (XS Z penv O (setS ev i t')) tk (O i) v t'):After w penv R Z O ev s O (setS ev i t') { s with heap:=h',toks:=tk } :=
 ⟨⟨fun b o nm e => (hs.2 b fun q => nm (.inr (.inr ⟨i,t,hg,ho,q.symm⟩))).trans e,fun _ _ _ e => e,fun _ _ e => .inl e,rfl,hn⟩,Nat.le_of_eq hs.1.symm,fun b q => .inl (mut_setOwn hg ho q),I.ownSet S (kf_size I.base) hg ho ho' hs hn hx hr⟩
theorem snd_app {x:Nat} {y m:PySem.Str} {py ap p1 pos:Pos} {b:Expr} {l:List PV} (hA:A.handled = none) (S:Stat penv G R N) (hN:ev.length = N) (L1:Le ev ev') (I:Inv w penv R Z O ev s.heap s.toks) (hR:R.lookup y = some x) (hm:m = ("append" : PySem.Str)) (hline:(ap.endLine == p1.line) = true) (hst:notStar b = true)
  (hg:getS ev' x = some (.ownL l)) (hlim:lim l.length = true) (h:SndE w A penv R Z O s (eval b penv) p ev'):SndX w A penv R Z O ev s (exec (.Expr (.Call (.Attribute (.Name y py) m ap) [b] [] p1) pos) penv) .next (setS ev' x (.ownL (l ++ [p]))):=by
 intro Q E hQ
 subst hm
 have hg0:=L1.2 x _ hg rfl
 refine wpAny_Expr ?_ (by unfold interactive;rw [S.fn];rfl) rfl
 refine wpAny_Call_append rfl (by rw [backTo_cons hst];rfl) hline (by rw [backTo_cons hst];rfl) ?_
 refine load_slot S I hR hg0 fun v c hne r => ?_
 obtain ⟨rfl,vs,k0,e0,_⟩:=r
 refine ⟨O x,_,rfl,⟨_,k0,e0,rfl,rfl,rfl⟩,h.mono fun s₁ u X1 z1 I1 r1 => ?_⟩
 obtain ⟨v,nm,r⟩:=I1.vars y x _ hR hg
 obtain ⟨rfl,vs,k0,e0,r0⟩:=r
 refine wpAny_list_append_plain (l:=O x) (items:=vs.toArray) ⟨k0,e0⟩ (fun h' hp hs => ?_) ?_
 ·have A2:=After.ownSet (t':=.ownL (l ++ [p])) (tk:=s₁.toks) S I1 hg rfl rfl hs (Nat.le_refl _) (let ⟨n,e⟩:=hp;⟨_,e⟩) fun v r => by
   obtain ⟨rfl,_⟩:=r
   obtain ⟨n,e⟩:=hp
   refine ⟨rfl,vs ++ [u],n,by rw [e];simp,?_⟩
   have hmn:∀ {us:List Value} {qs:List PV},Reps w s₁.heap (XS Z penv O ev') s₁.toks us qs → Reps w h' (XS Z penv O (setS ev' x (.ownL (l ++ [p])))) s₁.toks us qs:=fun r =>
    r.mono (fun b o nx e => (hs.2 b fun z => nx (z ▸ xs_own hg rfl)).trans e) (fun b z => .inl (xs_setOwn hg rfl z)) (Nat.le_refl _)
   exact (hmn r0).append (hmn (.cons r1 .nil))
  exact hQ _ _ O ((After.ofE X1 z1 L1 I1).trans A2) rfl
 ·have:=r0.length
  unfold lim at hlim
  have:=Nat.blt_eq.mp hlim
  rw [show sizeLine = 16777216 from rfl];simp;lia
theorem snd_set {x:Nat} {y:PySem.Str} {py p1 pos:Pos} {sl v:Expr} {i:Int} {l:List (Int × PV)} {ev₁:Ev} (hA:A.handled = none) (S:Stat penv G R N) (hN:ev.length = N) (L1:Le ev ev₁) (L2:Le ev₁ ev') (hR:R.lookup y = some x) (hnc:notComp v = true) (hg:getS ev' x = some (.ownD l)) (hlim:lim l.length = true)
  (h1:SndE w A penv R Z O s (eval v penv) p ev₁) (h2:∀ s₁,Inv w penv R Z O ev₁ s₁.heap s₁.toks → SndE w A penv R Z O s₁ (eval sl penv) (.int i) ev'):SndX w A penv R Z O ev s (exec (.Assign [.Subscript (.Name y py) sl p1] v pos) penv) .next (setS ev' x (.ownD (putI i p l))):=by
 intro Q E hQ
 have hg1:=L2.2 x _ hg rfl
 refine wpAny_Assign_Subscript (h1.mono fun s₁ u X1 z1 I1 r1 => load_slot S I1 hR hg1 fun ov c hne r => ?_) (swaps_false hnc)
 obtain ⟨rfl,_⟩:=r
 refine (h2 s₁ I1).mono fun s₂ iv X2 z2 I2 r2 => ?_
 cases r2
 rename_i tk
 obtain ⟨v',nm,r⟩:=I2.vars y x _ hR hg
 obtain ⟨rfl,kvs,ep,hd,hsm,hkk,r0⟩:=r
 have r1':=r1.go X2 L2
 refine wpAny_setItem_pairs (knd:=intKind pw w) (intKind_is pw w i tk) hd.dictOf (fun h' hp hs => ?_) ?_
 ·obtain ⟨o,es,ep',e,q1,q2,q3,q4,q5⟩:=hp
  have A2:=After.ownSet (t':=.ownD (putI i p l)) (tk:=s₂.toks + 1) S I2 hg rfl rfl hs (Nat.le_succ _) ⟨_,e⟩ fun v r => by
   obtain ⟨rfl,_⟩:=r
   have hmn:∀ {us:List Value} {qs:List PV},Reps w s₂.heap (XS Z penv O ev') s₂.toks us qs → Reps w h' (XS Z penv O (setS ev' x (.ownD (putI i p l)))) (s₂.toks + 1) us qs:=fun r =>
    r.mono (fun b o nx e => (hs.2 b fun z => nx (z ▸ xs_own hg rfl)).trans e) (fun b z => .inl (xs_setOwn hg rfl z)) (Nat.le_succ _)
   have hmn1:Rep w h' (XS Z penv O (setS ev' x (.ownD (putI i p l)))) (s₂.toks + 1) u p:=by
    have:=hmn (.cons r1' .nil)
    cases this with | cons a _ => exact a
   have hnd:(kvs.map (·.1)).Nodup:=by obtain ⟨_,_,_,_,_,_,_,hn⟩:=hd;exact hn
   obtain ⟨a,b⟩:=put_keys (i:=i) hmn1 kvs l hkk hnd (hmn r0)
   exact ⟨rfl,_,ep',⟨o,es,e,q1,q2,q3,q4,q5⟩,hsm,a,b⟩
  exact hQ _ _ O (((After.ofE X1 z1 L1 I1).trans (After.ofE X2 z2 L2 I2)).trans A2) rfl
 ·have:=r0.length
  simp only [List.length_map] at this
  unfold lim at hlim
  have:=Nat.blt_eq.mp hlim
  rw [show sizeLine = 16777216 from rfl];lia
theorem snd_aug {x:Nat} {y:PySem.Str} {py pos:Pos} {op:Bop} {o:Operator} {v:Expr} {i j:Int} (S:Stat penv G R N) (hN:ev.length = N) (L1:Le ev ev') (I:Inv w penv R Z O ev s.heap s.toks) (hR:R.lookup y = some x) (hop:augOk op o = true)
  (hg:getS ev x = some (.val (.int i))) (hb:binop op (.int i) (.int j) = some p) (h:SndE w A penv R Z O s (eval v penv) (.int j) ev'):SndX w A penv R Z O ev s (exec (.AugAssign (.Name y py) o v pos) penv) .next (setS ev' x (.val p)):=by
 intro Q E hQ
 refine wpAny_AugAssign_Name ?_
 obtain ⟨v0,nm,r⟩:=I.vars y x _ hR hg
 have r:Rep w s.heap (XS Z penv O ev) s.toks v0 (.int i):=r
 cases r
 rename_i t0
 have go:wpAny (model pw w) A (eval v penv) (fun v s₂ => wpAny (model pw w) A (inplaceOp o (.int i t0) v)
   (fun r s₃ => wpAny (model pw w) A (storeName penv y r) (fun _ => Q .next) E s₃) E s₂) E s:=by
  refine h.mono fun s₁ u X1 z1 I1 r1 => ?_
  cases r1
  rename_i t1
  have fin:∀ k,p = .int k → wpAny (model pw w) A (storeName penv y (.int k s₁.toks)) (fun _ => Q .next) E { s₁ with toks:=s₁.toks + 1 }:=fun k hk => by
   subst hk
   have X2:=Ext.toks penv.locals s₁ (s₁.toks + 1) (Nat.le_succ _)
   have I2:=toks1 I1 S
   exact snd_put (s:={ s₁ with toks:=s₁.toks + 1 }) S (L1.len hN) hR I2 (.int k _) fun s' a => hQ s' _ O (((After.ofE X1 z1 L1 I1).trans (After.ofE X2 (Nat.le_refl _) (Le.refl _) I2)).trans a) rfl
  have hb1:∀ z,(if (small i && small j) = true then some (PV.int z) else none) = some p → p = .int z:=fun z hz => by
   split at hz
   ·exact (Option.some.inj hz).symm
   ·exact (nS hz).elim
  cases op with
  | add =>
   cases o <;> first | (exfalso;revert hop;exact Bool.false_ne_true) | skip
   exact iadd_int (fin _ (hb1 _ hb))
  | sub =>
   cases o <;> first | (exfalso;revert hop;exact Bool.false_ne_true) | skip
   exact isub_int (fin _ (hb1 _ hb))
  | _ => exact absurd hop (by cases o <;> exact Bool.false_ne_true)
 rcases nm with ⟨kk,m,a,b⟩ | ⟨kk,c,a,b⟩
 ·exact wpAny_loadName_local S.fn kk a b go
 ·exact wpAny_loadName_cell S.fn kk a b go
end
end
section
section
variable {w:World} {A:Around} {penv:Env} {G K:List PySem.Str} {R:List (PySem.Str × Nat)} {N:Nat} {Z:Addr → Prop} {O:Nat → Addr} {ev ev':Ev} {s:Shared} {p:PV} {C:Calls} {n d:Nat}
theorem comp_put {x:Nat} {y:PySem.Str} {py:Pos} {s₀ s₃:Shared} {Da Ca:Addr} {W:Addr → Prop} {all:List PV} {Q:Shared → Prop} {E:Value → Shared → Prop} (S:Stat penv G R N) (hN:ev.length = N) (hRy:R.lookup y = some x) (I₀:Inv w penv R Z O ev s₀.heap s₀.toks)
  (hD:s₀.heap.objs.size ≤ Da) (hC:s₀.heap.objs.size ≤ Ca) (hDC:Da ≠ Ca) (st:CompSt w penv R Z O ev s₀ Da Ca all W s₃) (hQ:∀ s',After w penv R Z O ev s₀ O (setS ev x (.val (.list all))) s' → Q s') :
  wpAny (model pw w) A (assign (.Name y py) penv (.ref Da)) (fun _ s'' => ∃ m,s''.heap.Ns Ca m ∧ ∀ h',Heap.SameBut Ca s''.heap h' → Q { s'' with heap:=h' }) E s₃:=by
 obtain ⟨c,_,_⟩:=comp_done S I₀ hD hC hDC st (Heap.SameBut.refl Ca s₃.heap)
 have c:Chg noA noG s₀ s₃:=c
 have none0:∀ b,s₀.heap.objs.size ≤ b → s₀.heap.get? b = none:=fun b hb => Heap.get?_none_of_le hb
 have nx:∀ b,s₀.heap.objs.size ≤ b → ¬ XS Z penv O ev b:=fun b hb q => absurd (I₀.lx b q) (Nat.not_lt.mpr hb)
 have J:Inv w penv R (fun b => Z b ∨ b = Ca) O ev s₃.heap s₃.toks:=st.inv.less (fun b hb => hb.imp id (fun q => .inr (.inl q)))
 obtain ⟨ys,⟨kk,hacc⟩,hr⟩:=st.acc
 have hDlt:Da < s₃.heap.objs.size:=Heap.lt_size hacc
 have rJ:Rep w s₃.heap (XS (fun b => Z b ∨ b = Ca) penv O ev) s₃.toks (.ref Da) (.list all) :=
  .list ⟨_,hacc,rfl,kk,rfl⟩ (fun q => (xs_or q).elim (nx Da hD) hDC) (Reps.mono (fun _ _ _ e => e) (fun b q => .inl ((xs_or q).elim (fun q => by
   rcases q with q | q | q
   ·exact .inl q
   ·exact xs_z (.inl q)
   ·exact .inr (.inr q)) fun q => xs_z (.inr (.inr (.inl q))))) (Nat.le_refl _) hr)
 refine PyProof.Rows.assign_Name (snd_put S hN hRy J rJ fun s₄ a => ?_)
 obtain ⟨m,o,es,ep,e,rr⟩:=st.ns
 have e4:=a.chg.heap Ca o (fun q => nx Ca hC (mut_xs q)) e
 refine ⟨m,⟨o,es,ep,e4,rr⟩,fun h' hs => hQ _ ?_⟩
 have c4:=chg_two (tk:=s₄.toks) hs (Nat.le_refl _)
 have cM:Chg (Mut penv O ev) noG s₀ s₃:=c.mono (fun _ q => q.elim) (fun _ q => .inl q)
 have low:188 ≤ Ca:=Nat.le_trans (kf_size I₀.base) hC
 have I5:Inv w penv R (fun b => Z b ∨ b = Ca) O (setS ev x (.val (.list all))) h' s₄.toks:=a.inv.held (T:=(· = Ca)) (s':={ s₄ with heap:=h' }) (fun b q => .inr q) (fun b q => q ▸ low) (fun q => nx Ca hC (q ▸ xs_loc)) (fun x c hc q => nx Ca hC (q ▸ xs_cell hc)) c4 (fun b q => .inl q) (Nat.le_of_eq hs.1.symm)
 refine ⟨(cM.trans a.chg (fun b q => .inl q) (fun i q => q.elim)).trans c4 (fun b q => .inr (q ▸ none0 Ca hC)) (fun i q => q.elim),?_,fun b q => ?_,I5.less (s:={ s₄ with heap:=h' }) fun _ => .inl⟩
 ·exact Nat.le_trans (Nat.le_trans (Nat.le_trans hD (Nat.le_of_lt hDlt)) a.sz) (Nat.le_of_eq hs.1.symm)
 ·rcases a.own b q with q | q
  ·exact .inl q
  ·right
   cases e:s₀.heap.get? b with
   | none => rfl
   | some o => rw [c.heap b o id e] at q;exact (sN q).elim
theorem snd_asgC {m x v:Nat} {y:PySem.Str} {py pos:Pos} {elt:Mine.E} {it:It} {cond:List T} {l:Expr} (hA:AOk A d) (hC:CallsOk w C d) (S:Stat penv G R N) (hK:KOk penv K) (hN:ev.length = N) (hRy:R.lookup y = some x) (hl:isLC l = true)
  (hc:chkE m G K R l (.comp elt v it cond) = true) (hev:evE C n ev (.comp elt v it cond) = some (p,ev')) (I:Inv w penv R Z O ev s.heap s.toks) :
  SndX w A penv R Z O ev s (exec (.Assign [.Name y py] l pos) penv) .next (setS ev' x (.val p)):=by
 intro Q E hQ
 obtain ⟨b,hb⟩:∃ b,swapsWith l (some (.Name y py)) pos.line penv = pure b:=by rw [isLC_ hl];exact ⟨_,rfl⟩
 have L1:=(le_all n).e hev
 cases b with
 | false =>
  refine wpAny_Assign_Name ((ih_all hA hC n).e m penv G K R N Z O ev _ _ p ev' s S hK hN hc hev I _ _ fun s₁ u X1 z1 I1 r1 => ?_) hb
  exact snd_put S (L1.len hN) hRy I1 r1 fun s₂ a => hQ s₂ _ O ((After.ofE X1 z1 L1 I1).trans a) rfl
 | true =>
  cases m with
  | zero => exact absurd hc Bool.false_ne_true
  | succ m =>
  cases n with
  | zero => exact (nS hev).elim
  | succ n =>
  have H:=ih_all hA hC n
  obtain ⟨_,h2,h3,h4,h5⟩:=and_5 hc
  obtain ⟨k1,k2⟩:=and_2 h2
  obtain ⟨its,all,hvN,hi,hall,hlim,rfl⟩:=evE_inv hev
  have hf:=freeOk_iff k1
  have N1:=L1.len hN
  have e:=isLC_ hl
  rw [e] at hb ⊢
  rw [exec_Assign_Name_used _ _ _ _ hb]
  refine wpAny_bind (wpAny_standAt (wpAny_bind ?_))
  refine wpAny_bind (wpAny_comprehension_free (use:=some (assign (.Name y py) penv)) rfl (fold_plain (chkI_plain h3)) (freeOk_clos hf hK) hf.fn (freeOk_names hf) ?_)
  refine H.i m penv _ _ _ N Z O ev _ it its _ s S hK hN h3 hi I _ _ fun s₀ itv s₂ X0 z0 I0 hit z2 => ?_
  refine stepComp (K:=K) hA H S hK hf ((Bool.not_eq_true' _).mp k2) (hN ▸ hvN) N1 I0 hit z2 hlim hall h4 h5 (fun Da Ca W s₃ hD hC hDC st => ?_)
  refine comp_put S N1 hRy I0 (Nat.le_trans z2 hD) (Nat.le_trans z2 hC) hDC st fun s' a => ?_
  exact wpAny_pure (wpAny_pure (hQ s' _ O ((After.ofE X0 z0 L1 I0).trans a) rfl))
end
end
section
section
variable {w:World} {A:Around} {penv:Env} {G K:List PySem.Str} {R:List (PySem.Str × Nat)} {N:Nat} {Z:Addr → Prop} {O:Nat → Addr} {ev ev':Ev} {s:Shared} {p:PV} {C:Calls} {n d:Nat}
theorem Inv.grow {T T' M:Addr → Prop} {Gm:Nat → Prop} {s':Shared} (I:Inv w penv R (fun a => Z a ∨ T a) O ev s.heap s.toks) (hT8:∀ b,T b → 188 ≤ b) (hTL:¬ T penv.locals) (hTc:∀ x c,penv.cells.lookup x = some c → ¬ T c) (c:Chg M Gm s s') (hM:∀ b,M b → T b ∨ s.heap.get? b = none)
  (hT':∀ b,T' b → T b ∨ s.heap.get? b = none) (hTz:∀ b,T' b → T b ∨ b < s'.heap.objs.size) (hz:s.heap.objs.size ≤ s'.heap.objs.size):Inv w penv R (fun a => Z a ∨ T' a) O ev s'.heap s'.toks:=by
 have keep:∀ b o,¬ T b → s.heap.get? b = some o → s'.heap.get? b = some o:=fun b o h e => c.heap b o (fun q => by rcases hM b q with q | q;exact h q;rw [q] at e;cases e) e
 exact I.chg (fun b o h e => keep b o (fun q => h (xs_z (.inr q))) e) (fun i t hg ho o e => keep _ o (fun q => (I.ne i t hg ho).2.2.2.2 (.inr q)) e) (fun b o h e => keep b o (fun q => absurd h (Nat.not_lt.mpr (hT8 b q))) e)
  (fun m ⟨o,es,ep,e,r⟩ => ⟨o,es,ep,keep _ _ hTL e,r⟩) (fun x c' v hc q => isCell_at q fun o e => keep _ o (hTc x c' hc) e) (fun b hb => hb.elim (fun q => .inl (.inl q)) fun q => (hT' b q).imp .inr id)
  (fun b hb => hb.elim (fun q => Nat.lt_of_lt_of_le (I.zex b (.inl q)) hz) fun q => (hTz b q).elim (fun q => Nat.lt_of_lt_of_le (I.zex b (.inr q)) hz) id) c.tk
theorem FlOk.less {Z':Addr → Prop} {fl:Fl} {f:Flow} (h:∀ b,Z b → Z' b) (x:FlOk w penv Z' O ev s fl f):FlOk w penv Z O ev s fl f:=by
 cases fl with
 | next => exact x
 | ret p =>
  obtain ⟨v,rfl,r⟩:=x
  refine ⟨v,rfl,r.mono (fun _ _ _ e => e) (fun b q => .inl ?_) (Nat.le_refl _)⟩
  rcases q with q | q | q
  ·exact .inl q
  ·exact xs_z (h b q)
  ·exact .inr (.inr q)
structure ForSt (w:World) (A:Around) (penv:Env) (R:List (PySem.Str × Nat)) (Z:Addr → Prop) (O:Nat → Addr) (ev:Ev) (s₁:Shared) (it:Value) (Gw:Nat → Prop) (rest:List PV) (W:Addr → Prop) (O':Nat → Addr) (e:Ev) (s:Shared):Prop where
 inv:Inv w penv R (fun b => Z b ∨ W b) O' e s.heap s.toks
 pulls:Pulls w A it Gw (XS Z penv O ev) s₁ rest W s
 chg:Chg (Mut penv O ev) noG s₁ s
 sz:s₁.heap.objs.size ≤ s.heap.objs.size
 own:∀ b,Mut penv O' e b → Mut penv O ev b ∨ s₁.heap.get? b = none
 wf:∀ b,W b → Mut penv O ev b ∨ s₁.heap.get? b = none
 wa:∀ b,W b → 188 ≤ b ∧ b ≠ penv.locals ∧ ∀ x,penv.cells.lookup x ≠ some b
noncomputable def BodyOk (w:World) (A:Around) (penv:Env) (R:List (PySem.Str × Nat)) (N:Nat) (target:Expr) (body:List Stmt) (f:PV → Ev → Option (Fl × Ev)):Prop:=∀ p e fl e' Zc Oc s v,f p e = some (fl,e') → e.length = N → Inv w penv R Zc Oc e s.heap s.toks → Rep w s.heap (XS Zc penv Oc e) s.toks v p →
 ∀ (Q:Flow → Shared → Prop) (E:Value → Shared → Prop),(∀ s' fl' O',After w penv R Zc Oc e s O' e' s' → FlOk w penv Zc O' e' s' fl fl' → Q fl' s') → wpAny (model pw w) A (assign target penv v) (fun _ s₂ => wpAny (model pw w) A (execs body penv) Q E s₂) E s
noncomputable def QuietOk (w:World) (target:Expr) (f:PV → Ev → Option (Fl × Ev)):Prop:=∀ p e r s it v,f p e = some r → (∀ l,p = .tup l → QuietIt w s it v) → ∀ (A:Around) (Q:Unit → Shared → Prop) (E:Value → Shared → Prop),Q () s → wpAny (model pw w) A (letOwnedTupleGo target it v) Q E s
theorem for_loop {target iter:Expr} {body:List Stmt} {f:PV → Ev → Option (Fl × Ev)} {its:List PV} {it:Value} {Gw:Nat → Prop} {W₀:Addr → Prop} {s₁ s₂:Shared} {fl:Fl} {RR:Result → Shared → Prop} (S:Stat penv G R N) (hN:ev.length = N) (hlen:∀ p e fl e',f p e = some (fl,e') → e'.length = e.length)
  (hB:BodyOk w A penv R N target body f) (hq:QuietOk w target f) (I₁:Inv w penv R Z O ev s₁.heap s₁.toks) (c0:Chg noA noG s₁ s₂) (z0:s₁.heap.objs.size ≤ s₂.heap.objs.size) (hW:∀ b,W₀ b → s₁.heap.get? b = none ∧ b < s₂.heap.objs.size) (hG:∀ i,Gw i → s₁.gens[i]? = none) (P:Pulls w A it Gw (XS Z penv O ev) s₁ its W₀ s₂)
  (hl:loopF f its ev = some (fl,ev')) (hR:∀ s' fl' O',After w penv R Z O ev s₁ O' ev' s' → FlOk w penv Z O' ev' s' fl fl' → RR (.ok fl') s'):codeAny (model pw w) A (.forLoop target it body [] penv) RR s₂:=by
 have ex1:∃ o,s₁.heap.get? penv.locals = some o:=by obtain ⟨m,o,_,_,e,_⟩:=I₁.ns;exact ⟨o,e⟩
 have exc:∀ x c,penv.cells.lookup x = some c → ∃ o,s₁.heap.get? c = some o:=fun x c hx => by obtain ⟨_,o,e,_⟩:=I₁.cells x c hx;exact ⟨o,e⟩
 have nn:∀ {b o},s₁.heap.get? b = some o → s₁.heap.get? b = none → False:=fun e q => by rw [q] at e;exact (nS e).elim
 have low:∀ b,s₁.heap.get? b = none → 188 ≤ b:=fun b q => by
  rcases Nat.lt_or_ge b 188 with h | h
  ·exact (nn (I₁.base b _ (kf_some h)) q).elim
  ·exact h
 refine codeAny_forLoop_any (fun m s => ∃ rest W O' e,rest.length = m ∧ e.length = N ∧ loopF f rest e = some (fl,ev') ∧ ForSt w A penv R Z O ev s₁ it Gw rest W O' e s) ?_ its.length ?_
 ·rintro m s ⟨rest,W,O',e,rfl,he,hl,F⟩
  have W8:∀ b,W b → 188 ≤ b:=fun b q => (F.wa b q).1
  have WL:¬ W penv.locals:=fun q => (F.wa _ q).2.1 rfl
  have Wc:∀ x c,penv.cells.lookup x = some c → ¬ W c:=fun x c hx q => (F.wa _ q).2.2 x hx
  have fr:∀ b,s.heap.get? b = none → 188 ≤ b ∧ b ≠ penv.locals ∧ ∀ x,penv.cells.lookup x ≠ some b:=fun b q => by
   refine ⟨?_,?_,?_⟩
   ·rcases Nat.lt_or_ge b 188 with h | h
    ·rw [F.inv.base b _ (kf_some h)] at q;exact (sN q).elim
    ·exact h
   ·rintro rfl;obtain ⟨m,o,_,_,e,_⟩:=F.inv.ns;rw [q] at e;exact (nS e).elim
   ·intro x hx;obtain ⟨_,o,e,_⟩:=F.inv.cells x b hx;rw [q] at e;exact (nS e).elim
  have back:∀ b,s.heap.get? b = none → Mut penv O ev b ∨ s₁.heap.get? b = none:=fun b q => by
   by_cases hm:Mut penv O ev b
   ·exact .inl hm
   ·cases q':s₁.heap.get? b with
    | none => exact .inr rfl
    | some o => rw [F.chg.heap b o hm q'] at q;exact (sN q).elim
  cases rest with
  | nil =>
   cases hl
   refine wpAny_grow (F.pulls s _ _ (Later.refl s) fun s' c hz _ => ?_)
   refine wpAny_execs_nil (hR s' .next O' ?_ rfl)
   have I':Inv w penv R (fun b => Z b ∨ W b) O' ev' s'.heap s'.toks:=F.inv.grow W8 WL Wc c (fun b q => .inl q) (fun b q => .inl q) (fun b q => .inl q) hz
   exact ⟨F.chg.trans c (fun b q => F.wf b q) (fun i q => .inr (hG i q)),Nat.le_trans F.sz hz,F.own,I'.less fun _ => .inl⟩
  | cons p rest =>
   refine wpAny_grow (F.pulls s _ _ (Later.refl s) fun v s' W' c w1 w2 w3 r q P' hz _ => ?_)
   have I':Inv w penv R (fun b => Z b ∨ W' b) O' e s'.heap s'.toks:=F.inv.grow W8 WL Wc c (fun b q => .inl q) w2 w3 hz
   have wf':∀ b,W' b → Mut penv O ev b ∨ s₁.heap.get? b = none:=fun b q => (w2 b q).elim (F.wf b) (back b)
   have r':Rep w s'.heap (XS (fun b => Z b ∨ W' b) penv O' e) s'.toks v p:=by
    refine r _ (fun b y => ?_) (fun b y => ?_)
    ·rcases y with y | (y | y) | y
     ·exact .inl (.inl y)
     ·exact .inl (xs_z y)
     ·exact (wf' b y).imp mut_xs id
     ·exact (F.own b y).imp mut_xs id
    ·rcases xs_or y with y | y
     ·exact .inl (F.inv.lx b (by
       rcases y with y | y | y
       ·exact .inl y
       ·exact xs_z (.inl y)
       ·exact .inr (.inr y)))
     ·exact .inr y
   have hfp:∃ r,f p e = some r:=by
    rw [loopF_c] at hl
    cases h:f p e with
    | none => rw [h] at hl;exact (nS hl).elim
    | some r => exact ⟨r,rfl⟩
   obtain ⟨⟨fl₁,e₁⟩,hfp⟩:=hfp
   refine hq p e _ s' it v hfp q _ _ _ ?_
   refine hB p e fl₁ e₁ _ O' s' v hfp he I' r' _ _ fun s₃ fl' O₃ a ok => ?_
   have cc:Chg (Mut penv O ev) noG s₁ s₃:=(F.chg.trans c (fun b q => F.wf b q) (fun i q => .inr (hG i q))).trans a.chg F.own (fun i q => q.elim)
   have own':∀ b,Mut penv O₃ e₁ b → Mut penv O ev b ∨ s₁.heap.get? b = none:=fun b q => by
    rcases a.own b q with q | q
    ·exact F.own b q
    ·by_cases hw:W b
     ·exact F.wf b hw
     ·cases q':s.heap.get? b with
      | none => exact back b q'
      | some o => rw [c.heap b o hw q'] at q;exact (sN q).elim
   have sz':s₁.heap.objs.size ≤ s₃.heap.objs.size:=Nat.le_trans F.sz (Nat.le_trans hz a.sz)
   cases fl₁ with
   | ret u =>
    have:loopF f (p :: rest) e = some (.ret u,e₁):=by
     show (match f p e with | some (.next,e) => loopF f rest e | y => y) = _
     rw [hfp]
    rw [this] at hl
    cases hl
    obtain ⟨v',rfl,rr⟩:=ok
    exact hR s₃ (.ret v') O₃ ⟨cc,sz',own',a.inv.less fun _ => .inl⟩ (FlOk.less (fun _ => .inl) ⟨v',rfl,rr⟩)
   | next =>
    have:loopF f (p :: rest) e = loopF f rest e₁:=by
     show (match f p e with | some (.next,e) => loopF f rest e | y => y) = _
     rw [hfp]
    rw [this] at hl
    obtain rfl:fl' = .next:=ok
    have nm:∀ b,KW (XS Z penv O ev) s₁ W' b → ¬ Mut penv O' e b:=by
     rintro b (q | q | ⟨nx,o,ex⟩) hm
     ·rcases hm with rfl | ⟨x,hx⟩ | ⟨i,t,hg,ho,rfl⟩
      ·exact (w2 _ q).elim WL fun q => (fr _ q).2.1 rfl
      ·exact (w2 _ q).elim (Wc x b hx) fun q => (fr _ q).2.2 x hx
      ·exact (I'.ne i t hg ho).2.2.2.2 (.inr q)
     ·rcases hm with rfl | ⟨x,hx⟩ | ⟨i,t,hg,ho,rfl⟩
      ·exact absurd q (Nat.not_lt.mpr S.lo)
      ·exact absurd q (Nat.not_lt.mpr (S.cl x b hx).2)
      ·exact absurd q (Nat.not_lt.mpr (I'.ne i t hg ho).2.1)
     ·rcases F.own b hm with q | q
      ·exact nx (mut_xs q)
      ·exact nn ex q
    refine ⟨rest.length,Nat.lt_succ_self _,rest,W',O₃,e₁,rfl,(hlen p e _ e₁ hfp).trans he,hl,a.inv,?_,cc,sz',own',wf',fun b q => (w2 b q).elim (F.wa b) (fr b)⟩
    exact P'.later ⟨fun b o kw e => a.chg.heap b o (nm b kw) e,fun i x e => a.chg.gens i x id e,a.chg.tk⟩
 ·refine ⟨its,W₀,O,ev,rfl,hN,hl,?_⟩
  have I2:Inv w penv R (fun b => Z b ∨ W₀ b) O ev s₂.heap s₂.toks:=I₁.more W₀ (fun b q => (hW b q).1) c0 z0 (fun b q => (hW b q).2)
  refine ⟨I2,P,c0.mono (fun _ q => q.elim) (fun _ q => .inl q),z0,fun b q => .inl q,fun b q => .inr (hW b q).1,fun b q => ?_⟩
  exact ⟨low b (hW b q).1,fun h => by obtain ⟨o,e⟩:=ex1;exact nn e (h ▸ (hW b q).1),fun x hx => by obtain ⟨o,e⟩:=exc x b hx;exact nn e (hW b q).1⟩
end
end
section
section
variable {C:Calls} {n:Nat} {ev ev':Ev} {fl:Fl}
noncomputable def EvS (C:Calls) (n:Nat) (ev:Ev) (fl:Fl) (ev':Ev):S → Prop
 | .asg x a => ∃ v e1,evE C n ev a = some (v,e1) ∧ .next = fl ∧ setS e1 x (.val v) = ev'
 | .asgL x l => ∃ vs e1,evL C n ev l = some (vs,e1) ∧ .next = fl ∧ setS e1 x (.ownL vs) = ev'
 | .asgD x l => ∃ vs e1,evD C n ev l = some (vs,e1) ∧ .next = fl ∧ setS e1 x (.ownD vs) = ev'
 | .unp xs a => ∃ l e1,evE C n ev a = some (.tup l,e1) ∧ .next = fl ∧ setMany e1 xs l = some ev'
 | .aug x op a => ∃ i j e1 z,evE C n ev a = some (.int j,e1) ∧ .next = fl ∧ setS e1 x (.val z) = ev' ∧ getS ev x = some (.val (.int i)) ∧ binop op (.int i) (.int j) = some z
 | .app x a => ∃ v e1 l,evE C n ev a = some (v,e1) ∧ .next = fl ∧ setS e1 x (.ownL (l ++ [v])) = ev' ∧ getS e1 x = some (.ownL l) ∧ lim l.length = true
 | .set x a b => ∃ v e1 i e2 l,evE C n ev b = some (v,e1) ∧ evE C n e1 a = some (.int i,e2) ∧ .next = fl ∧ setS e2 x (.ownD (putI i v l)) = ev' ∧ getS e2 x = some (.ownD l) ∧ lim l.length = true
 | .ifs t a b => ∃ c e1,evT C n ev t = some (c,e1) ∧ exB C n e1 (if c then a else b) = some (fl,ev')
 | .for1 x it b => ∃ its e1,evI C n ev it = some (its,e1) ∧ loopF (fun v e => exB C n (setS e x (.val v)) b) its e1 = some (fl,ev')
 | .forn xs it b => ∃ its e1,evI C n ev it = some (its,e1) ∧ loopF (fun v e => (unpV v).bind fun l => (setMany e xs l).bind fun e => exB C n e b) its e1 = some (fl,ev')
 | .wh t b => exW C n ev t b 8 = some (fl,ev')
 | .ret a => ∃ v,evE C n ev a = some (v,ev') ∧ .ret v = fl
theorem unpV_some {p:PV} {l:List PV} (h:unpV p = some l):p = .tup l:=by
 cases p <;> cases h
 rfl
theorem aug_inv {α:Type} {t:Slot} {v:PV} {f:Int → Int → Option α} {r:α} (h:(match t,v with | .val (.int i),.int j => f i j | _,_ => none) = some r):∃ i j,t = .val (.int i) ∧ v = .int j ∧ f i j = some r:=by
 cases t with
 | val p =>
  cases p <;> first | exact (nn h).elim | skip
  cases v <;> first | exact (nn h).elim | skip
  exact ⟨_,_,rfl,rfl,h⟩
 | _ => exact (nn h).elim
theorem set_inv {α:Type} {t:Slot} {k:PV} {f:List (Int × PV) → Int → Option α} {r:α} (h:(match t,k with | .ownD l,.int i => f l i | _,_ => none) = some r):∃ l i,t = .ownD l ∧ k = .int i ∧ f l i = some r:=by
 cases t with
 | ownD l =>
  cases k <;> first | exact (nn h).elim | skip
  exact ⟨_,_,rfl,rfl,h⟩
 | _ => exact (nn h).elim
theorem exS_inv {x:S} (h:exS C (n + 1) ev x = some (fl,ev')):EvS C n ev fl ev' x:=by
 cases x with
 | asg =>
  obtain ⟨v,e1,h1,h⟩:=bnd2 h
  exact ⟨v,e1,h1,som h⟩
 | asgL =>
  obtain ⟨v,e1,h1,h⟩:=bnd2 h
  exact ⟨v,e1,h1,som h⟩
 | asgD =>
  obtain ⟨v,e1,h1,h⟩:=bnd2 h
  exact ⟨v,e1,h1,som h⟩
 | unp =>
  obtain ⟨v,e1,h1,h⟩:=bnd2 h
  obtain ⟨l,h2,h⟩:=bnd1 h
  obtain ⟨e2,h3,h⟩:=bnd1 h
  obtain ⟨rfl,rfl⟩:=som h
  exact ⟨l,e1,unpV_some h2 ▸ h1,rfl,h3⟩
 | aug =>
  obtain ⟨t,h0,h⟩:=bnd1 h
  obtain ⟨v,e1,h1,h⟩:=bnd2 h
  obtain ⟨i,j,rfl,rfl,h9⟩:=aug_inv (f:=fun i j => (binop _ (.int i) (.int j)).bind fun z => some (Fl.next,setS e1 _ (.val z))) h
  obtain ⟨z,h3,h⟩:=bnd1 h9
  obtain ⟨rfl,rfl⟩:=som h
  exact ⟨_,_,e1,z,h1,rfl,rfl,h0,h3⟩
 | app =>
  obtain ⟨v,e1,h1,h⟩:=bnd2 h
  obtain ⟨t,h0,h⟩:=bnd1 h
  cases t <;> first | exact (nn h).elim | skip
  obtain ⟨q,h⟩:=if_some h
  obtain ⟨rfl,rfl⟩:=Prod.mk.inj h
  exact ⟨v,e1,_,h1,rfl,rfl,h0,q⟩
 | set =>
  obtain ⟨v,e1,h1,h⟩:=bnd2 h
  obtain ⟨k,e2,h2,h⟩:=bnd2 h
  obtain ⟨t,h0,h⟩:=bnd1 h
  obtain ⟨l,i,rfl,rfl,h9⟩:=set_inv (f:=fun l i => if lim l.length then some (Fl.next,setS e2 _ (.ownD (putI i v l))) else none) h
  obtain ⟨q,h⟩:=if_some h9
  obtain ⟨rfl,rfl⟩:=Prod.mk.inj h
  exact ⟨v,e1,_,e2,_,h1,h2,rfl,rfl,h0,q⟩
 | ifs =>
  obtain ⟨c,e1,h1,h⟩:=bnd2 h
  refine ⟨c,e1,h1,?_⟩
  cases c <;> exact h
 | for1 =>
  obtain ⟨its,e1,h1,h⟩:=bnd2 h
  exact ⟨its,e1,h1,h⟩
 | forn =>
  obtain ⟨its,e1,h1,h⟩:=bnd2 h
  exact ⟨its,e1,h1,h⟩
 | wh => exact h
 | ret =>
  obtain ⟨v,e1,h1,h⟩:=bnd2 h
  obtain ⟨rfl,rfl⟩:=som h
  exact ⟨v,h1,rfl⟩
theorem nxt_inv {o:Option (Fl × Ev)} {f:Ev → Option (Fl × Ev)} (h:(match o with | some (.next,e) => f e | y => y) = some (fl,ev')):(∃ e1,o = some (.next,e1) ∧ f e1 = some (fl,ev')) ∨ o = some (fl,ev') ∧ ∃ p,fl = .ret p:=by
 cases o with
 | none => exact (nn h).elim
 | some q =>
  obtain ⟨g,e⟩:=q
  cases g with
  | next => exact .inl ⟨e,rfl,h⟩
  | ret p => exact .inr ⟨h,p,(som h).1.symm⟩
theorem xW {e e1:Ev} {t:T} {b:List S} {k:Nat} {c:Bool} (h:evT C n e t = some (c,e1)):exW C (n + 1) e t b k = if c then (match exB C n e1 b with | some (.next,e) => exW C n e t b k | y => y) else some (.next,e1):=by
 show (match evT C n e t with | some (true,e) => (match exB C n e b with | some (.next,e) => exW C n e t b k | y => y) | some (false,e) => some (.next,e) | none => none) = _
 rw [h]
 cases c <;> rfl
theorem xWn {e:Ev} {t:T} {b:List S} {k:Nat} (h:evT C n e t = none):exW C (n + 1) e t b k = none:=by
 show (match evT C n e t with | some (true,e) => (match exB C n e b with | some (.next,e) => exW C n e t b k | y => y) | some (false,e) => some (.next,e) | none => none) = _
 rw [h]
theorem exB_inv {s:S} {r:List S} (h:exB C (n + 1) ev (s :: r) = some (fl,ev')):(∃ e1,exS C n ev s = some (.next,e1) ∧ exB C n e1 r = some (fl,ev')) ∨ exS C n ev s = some (fl,ev') ∧ ∃ p,fl = .ret p:=nxt_inv (o:=exS C n ev s) (f:=fun e => exB C n e r) h
theorem exW_inv {t:T} {b:List S} {k:Nat} (h:exW C (n + 1) ev t b k = some (fl,ev')):∃ c e1,evT C n ev t = some (c,e1) ∧ (if c then (∃ e2,exB C n e1 b = some (.next,e2) ∧ exW C n e2 t b k = some (fl,ev')) ∨ exB C n e1 b = some (fl,ev') ∧ ∃ p,fl = .ret p else .next = fl ∧ e1 = ev'):=by
 cases ht:evT C n ev t with
 | none => exact (nn ((xWn ht).symm.trans h)).elim
 | some q =>
  obtain ⟨c,e1⟩:=q
  refine ⟨c,e1,rfl,?_⟩
  have h:=(xW ht).symm.trans h
  cases c with
  | true => exact nxt_inv (o:=exB C n e1 b) (f:=fun e => exW C n e t b k) h
  | false => exact som h
theorem loopF_len {f:PV → Ev → Option (Fl × Ev)} (hf:∀ p e fl e',f p e = some (fl,e') → e'.length = e.length) (l:List PV):∀ {e:Ev} {fl:Fl} {e':Ev},loopF f l e = some (fl,e') → e'.length = e.length:=by
 induction l with
 | nil => intro e fl e' h;exact (som h).2 ▸ rfl
 | cons x r ih =>
  intro e fl e' h
  rcases nxt_inv (o:=f x e) (f:=fun e => loopF f r e) h with ⟨e1,h1,h2⟩ | ⟨h1,_⟩
  ·exact (ih h2).trans (hf _ _ _ _ h1)
  ·exact hf _ _ _ _ h1
structure LenAll (C:Calls) (n:Nat):Prop where
 s:∀ {e s fl e'},exS C n e s = some (fl,e') → e'.length = e.length
 b:∀ {e s fl e'},exB C n e s = some (fl,e') → e'.length = e.length
 w:∀ {e t s k fl e'},exW C n e t s k = some (fl,e') → e'.length = e.length
theorem lenS (H:LenAll C n) {x:S} (h:EvS C n ev fl ev' x):ev'.length = ev.length:=by
 have L:=le_all (C:=C) n
 cases x with
 | asg => obtain ⟨v,e1,hv,_,rfl⟩:=h;exact setS_len.trans (L.e hv).1
 | asgL => obtain ⟨v,e1,hv,_,rfl⟩:=h;exact setS_len.trans (L.l hv).1.1
 | asgD => obtain ⟨v,e1,hv,_,rfl⟩:=h;exact setS_len.trans (L.d hv).1.1
 | unp => obtain ⟨v,e1,hv,_,h⟩:=h;exact (setMany_len h).1.trans (L.e hv).1
 | aug => obtain ⟨i,j,e1,z,hv,_,rfl,_⟩:=h;exact setS_len.trans (L.e hv).1
 | app => obtain ⟨v,e1,l,hv,_,rfl,_⟩:=h;exact setS_len.trans (L.e hv).1
 | set => obtain ⟨v,e1,i,e2,l,hv,hk,_,rfl,_⟩:=h;exact setS_len.trans ((L.e hk).1.trans (L.e hv).1)
 | ifs => obtain ⟨c,e1,hv,h⟩:=h;exact (H.b h).trans (L.t hv).1
 | for1 => obtain ⟨its,e1,hv,h⟩:=h;exact (loopF_len (fun p e fl e' h => (H.b h).trans setS_len) _ h).trans (L.i hv).1
 | forn =>
  obtain ⟨its,e1,hv,h⟩:=h
  refine (loopF_len (fun p e fl e' h => ?_) _ h).trans (L.i hv).1
  obtain ⟨l,hl,h⟩:=bnd1 h
  obtain ⟨e2,h2,h⟩:=bnd1 h
  exact (H.b h).trans (setMany_len h2).1
 | wh => exact H.w h
 | ret => obtain ⟨v,hv,_⟩:=h;exact (L.e hv).1
theorem len_all (n:Nat):LenAll C n:=by
 induction n with
 | zero => exact ⟨nofun,nofun,nofun⟩
 | succ n H =>
  refine ⟨fun h => lenS H (exS_inv h),fun {e s fl e'} h => ?_,fun h => ?_⟩
  ·cases s with
   | nil => exact (som h).2 ▸ rfl
   | cons s r =>
    rcases exB_inv h with ⟨e1,h1,h2⟩ | ⟨h1,_⟩
    ·exact (H.b h2).trans (H.s h1)
    ·exact H.s h1
  ·obtain ⟨c,e1,h1,h⟩:=exW_inv h
   split at h
   ·rcases h with ⟨e2,h2,h3⟩ | ⟨h2,_⟩
    ·exact (H.w h3).trans ((H.b h2).trans ((le_all n).t h1).1)
    ·exact (H.b h2).trans ((le_all n).t h1).1
   ·exact h.2 ▸ ((le_all n).t h1).1
end
end
section
section
variable (w:World) (A:Around) (C:Calls) (n:Nat)
noncomputable def PS:Prop:=∀ (m:Nat) (penv:Env) (G K:List PySem.Str) (R:List (PySem.Str × Nat)) (N:Nat) (Z:Addr → Prop) (O:Nat → Addr) (ev:Ev) (x:Stmt) (st:S) (fl:Fl) (ev':Ev) (s:Shared),Stat penv G R N → KOk penv K → ev.length = N → chkS m G K R x st = true → exS C n ev st = some (fl,ev') →
 Inv w penv R Z O ev s.heap s.toks → SndX w A penv R Z O ev s (exec x penv) fl ev'
noncomputable def PB:Prop:=∀ (m:Nat) (penv:Env) (G K:List PySem.Str) (R:List (PySem.Str × Nat)) (N:Nat) (Z:Addr → Prop) (O:Nat → Addr) (ev:Ev) (xs:List Stmt) (b:List S) (fl:Fl) (ev':Ev) (s:Shared),Stat penv G R N → KOk penv K → ev.length = N → chkB m G K R xs b = true → exB C n ev b = some (fl,ev') →
 Inv w penv R Z O ev s.heap s.toks → SndX w A penv R Z O ev s (execs xs penv) fl ev'
end
section
variable {w:World} {A:Around} {C:Calls} {n d:Nat}
theorem flOk_ret {penv:Env} {Z:Addr → Prop} {O:Nat → Addr} {ev:Ev} {s:Shared} {p:PV} {f:Flow} (h:FlOk w penv Z O ev s (.ret p) f):∃ v,f = .ret v:=let ⟨v,e,_⟩:=h;⟨v,e⟩
theorem stepB (HS:PS w A C n) (HB:PB w A C n):PB w A C (n + 1):=by
 intro m penv G K R N Z O ev xs b fl ev' s S hK hN hc hev I
 cases m with
 | zero => exact absurd hc Bool.false_ne_true
 | succ m =>
 cases b with
 | nil =>
  obtain rfl:=List.isEmpty_iff.mp hc
  obtain ⟨rfl,rfl⟩:=som hev
  exact fun Q E hQ => wpAny_execs_nil (hQ s _ O (After.refl I) rfl)
 | cons e es =>
  obtain ⟨h0,h1,h2⟩:=and_3 hc
  intro Q E hQ
  rw [cons_hd h0]
  refine wpAny_execs_cons ?_
  rcases exB_inv hev with ⟨e1,k1,k2⟩ | ⟨k1,p,rfl⟩
  ·refine HS m penv G K R N Z O ev _ e .next e1 s S hK hN h1 k1 I _ _ fun s₁ f O₁ a ok => ?_
   obtain rfl:f = .next:=ok
   exact HB m penv G K R N Z O₁ e1 _ es fl ev' s₁ S hK (((len_all n).s k1).trans hN) h2 k2 a.inv _ _ fun s₂ f O₂ b ok => hQ s₂ f O₂ (a.trans b) ok
  ·refine HS m penv G K R N Z O ev _ e _ ev' s S hK hN h1 k1 I _ _ fun s₁ f O₁ a ok => ?_
   obtain ⟨v,rfl⟩:=flOk_ret ok
   exact hQ s₁ _ O₁ a ok
theorem quiet_name {y:PySem.Str} {py:Pos} {f:PV → Ev → Option (Fl × Ev)}:QuietOk w (.Name y py) f:=fun _ _ _ _ _ _ _ _ _ _ _ hQ => wpAny_pure hQ
section
variable {m:Nat} {penv:Env} {G K:List PySem.Str} {R:List (PySem.Str × Nat)} {N:Nat} {Z:Addr → Prop} {O:Nat → Addr} {ev ev':Ev} {st:Stmt} {fl:Fl} {s:Shared}
theorem stepWh (hA:AOk A d) (hC:CallsOk w C d) (HB:∀ m ≤ n,PB w A C m) {t:T} {b:List S} (S:Stat penv G R N) (hK:KOk penv K) (hN:ev.length = N) (hc:chkS (m + 1) G K R st (.wh t b) = true) (hev:exW C n ev t b 8 = some (fl,ev')) (I:Inv w penv R Z O ev s.heap s.toks) :
  SndX w A penv R Z O ev s (exec st penv) fl ev':=by
 obtain ⟨h1,h2,h3,h4⟩:=and_4 hc
 intro Q E hQ
 rw [show st = _ from isS_ h1,List.isEmpty_iff.mp h2]
 refine wpAny_While (codeAny_whileLoop (fun k s' => ∃ e O',k ≤ n ∧ e.length = N ∧ exW C k e t b 8 = some (fl,ev') ∧ After w penv R Z O ev s O' e s') ?_ n ⟨ev,O,Nat.le_refl _,hN,hev,After.refl I⟩)
 rintro k s₁ ⟨e,O',hk,he,hw,a⟩
 cases k with
 | zero => exact (nS hw).elim
 | succ k =>
 obtain ⟨c,e1,hv,hw⟩:=exW_inv hw
 have L:=(le_all k).t hv
 refine (ih_all hA hC k).t m penv G K R N Z O' e _ t c e1 s₁ S hK he h3 hv a.inv _ _ fun s₂ X1 z1 I1 => ?_
 have A1:=a.trans (After.ofE X1 z1 L I1)
 cases c with
 | false =>
  obtain ⟨rfl,rfl⟩:=hw
  exact wpAny_execs_nil (hQ s₂ .next O' A1 rfl)
 | true =>
  rcases hw with ⟨e2,h5,hw⟩ | ⟨hw,p,rfl⟩
  ·refine HB k (Nat.le_of_succ_le hk) m penv G K R N Z O' e1 _ b .next e2 s₂ S hK (L.len he) h4 h5 I1 _ _ fun s₃ f O₃ b ok => ?_
   obtain rfl:f = .next:=ok
   exact ⟨k,Nat.lt_succ_self _,e2,O₃,Nat.le_of_succ_le hk,((len_all k).b h5).trans (L.len he),hw,A1.trans b⟩
  ·refine HB k (Nat.le_of_succ_le hk) m penv G K R N Z O' e1 _ b _ ev' s₂ S hK (L.len he) h4 hw I1 _ _ fun s₃ f O₃ b ok => ?_
   obtain ⟨v,rfl⟩:=flOk_ret ok
   exact hQ s₃ _ O₃ (A1.trans b) ok
theorem stepFor (hA:AOk A d) (hC:CallsOk w C d) (HB:PB w A C n) {it:It} {b:List S} {xs:List Nat} (S:Stat penv G R N) (hK:KOk penv K) (hN:ev.length = N) (hc:chkS (m + 1) G K R st (.forn xs it b) = true) (hev:EvS C n ev fl ev' (.forn xs it b))
  (I:Inv w penv R Z O ev s.heap s.toks):SndX w A penv R Z O ev s (exec st penv) fl ev':=by
 obtain ⟨h1,h2,h3,h4,h5⟩:=and_5 hc
 obtain ⟨k1,k2⟩:=and_2 h2
 obtain ⟨its,e1,hv,hev⟩:=hev
 have L:=(le_all n).i hv
 intro Q E hQ
 rw [show st = _ from isS_ h1,List.isEmpty_iff.mp h3,show (viewS st).a = _ from isT_ k1]
 refine wpAny_For ?_ (fold_plain (chkI_plain h4))
 refine (ih_all hA hC n).i m penv _ _ _ N Z O ev _ it its e1 s S hK hN h4 hv I _ _ fun s₀ itv s₂ X0 z0 I0 hit z2 => ?_
 obtain ⟨W,Gw,c,hW,hG,P,_⟩:=hit
 have dec:∀ {p e r},((unpV p).bind fun l => (setMany e xs l).bind fun e => exB C n e b) = some r → ∃ l e2,p = .tup l ∧ setMany e xs l = some e2 ∧ exB C n e2 b = some r:=fun {p e r} h => by
  obtain ⟨l,hl,h⟩:=bnd1 h
  obtain ⟨e2,h2,h3⟩:=bnd1 h
  exact ⟨l,e2,unpV_some hl,h2,h3⟩
 refine for_loop (iter:=(viewS st).b) S (L.len hN) (fun p e fl e' h => ?_) (fun p e fl e' Zc Oc s v h he Ic r Q E hQ => ?_) (fun p e r s it v h hq A Q E hQ => ?_) I0 c z2 hW hG P hev (fun s' f O' a ok => hQ s' f O' ((After.ofE X0 z0 L I0).trans a) ok)
 ·obtain ⟨l,e2,rfl,h2,h⟩:=dec h
  exact ((len_all n).b h).trans (setMany_len h2).1
 ·obtain ⟨l,e2,rfl,h2,h⟩:=dec h
  refine store_tup hA.hd S he k2 r h2 Ic fun s₁ a => ?_
  exact HB m penv G K R N Zc Oc _ _ b fl e' s₁ S hK ((setMany_len h2).1.trans he) h5 h a.inv _ _ fun s₂ f O₂ b ok => hQ s₂ f O₂ (a.trans b) ok
 ·obtain ⟨l,e2,rfl,h2,h⟩:=dec h
  exact hq l rfl A Q E _ hQ
theorem stepFor1 (hA:AOk A d) (hC:CallsOk w C d) (HB:PB w A C n) {it:It} {b:List S} {x:Nat} (S:Stat penv G R N) (hK:KOk penv K) (hN:ev.length = N) (hc:chkS (m + 1) G K R st (.for1 x it b) = true) (hev:EvS C n ev fl ev' (.for1 x it b))
  (I:Inv w penv R Z O ev s.heap s.toks):SndX w A penv R Z O ev s (exec st penv) fl ev':=by
 obtain ⟨h1,h2,h3,h4,h5⟩:=and_5 hc
 obtain ⟨k1,k2⟩:=and_2 h2
 obtain ⟨its,e1,hv,hev⟩:=hev
 have L:=(le_all n).i hv
 intro Q E hQ
 rw [show st = _ from isS_ h1,List.isEmpty_iff.mp h3,show (viewS st).a = _ from isT_ k1]
 refine wpAny_For ?_ (fold_plain (chkI_plain h4))
 refine (ih_all hA hC n).i m penv _ _ _ N Z O ev _ it its e1 s S hK hN h4 hv I _ _ fun s₀ itv s₂ X0 z0 I0 hit z2 => ?_
 obtain ⟨W,Gw,c,hW,hG,P,_⟩:=hit
 refine for_loop (iter:=(viewS st).b) S (L.len hN) (fun p e fl e' h => ((len_all n).b h).trans setS_len) (fun p e fl e' Zc Oc s v h he Ic r Q E hQ => ?_) quiet_name I0 c z2 hW hG P hev (fun s' f O' a ok => hQ s' f O' ((After.ofE X0 z0 L I0).trans a) ok)
 refine PyProof.Rows.assign_Name (snd_put S he (eq_of_beq k2) Ic r fun s₁ a => ?_)
 exact HB m penv G K R N Zc Oc _ _ b fl e' s₁ S hK (by rw [setS_len];exact he) h5 h a.inv _ _ fun s₂ f O₂ b ok => hQ s₂ f O₂ (a.trans b) ok
theorem stepAsg (hA:AOk A d) (hC:CallsOk w C d) {x:Nat} {a:Mine.E} {p:PV} (S:Stat penv G R N) (hK:KOk penv K) (hN:ev.length = N) (hc:chkS (m + 1) G K R st (.asg x a) = true) (hv:evE C n ev a = some (p,ev')) (I:Inv w penv R Z O ev s.heap s.toks) :
  SndX w A penv R Z O ev s (exec st penv) .next (setS ev' x (.val p)):=by
 obtain ⟨h1,h2,h3⟩:=and_3 hc
 obtain ⟨k1,k2⟩:=isA_ h1
 rw [k1,show hd (viewS st).ts = _ from k2]
 have h2:=eq_of_beq h2
 have gen:(notComp (viewS st).a && chkE m G K R (viewS st).a a) = true → SndX w A penv R Z O ev s (exec (.Assign [.Name (tN st) (view (hd (viewS st).ts)).p] (viewS st).a (viewS st).p) penv) .next (setS ev' x (.val p)):=fun h => by
  obtain ⟨h4,h5⟩:=and_2 h
  exact snd_asg (i:=0) S hN ((le_all n).e hv) h2 h4 ((ih_all hA hC n).e m penv G K R N Z O ev _ a p ev' s S hK hN h5 hv I)
 cases a <;> first | exact gen h3 | skip
 exact snd_asgC hA hC S hK hN h2 (and_2 h3).1 (and_2 h3).2 hv I
theorem stepS (hA:AOk A d) (hC:CallsOk w C d) (HB:∀ m ≤ n,PB w A C m):PS w A C (n + 1):=by
 intro m penv G K R N Z O ev st x fl ev' s S hK hN hc hev I
 cases m with
 | zero => exact absurd hc Bool.false_ne_true
 | succ m =>
 replace hev:=exS_inv hev
 have HE:=fun {ev x e v e' s} => (ih_all hA hC n).e m penv G K R N Z O ev x e v e' s S hK
 have LE:=fun {ev x p ev'} => @LeAll.e C n (le_all n) ev x p ev'
 cases x with
 | asg x a =>
  obtain ⟨p,e1,hv,rfl,rfl⟩:=hev
  exact stepAsg hA hC S hK hN hc hv I
 | asgL x l =>
  obtain ⟨h1,h2,h3,h4,h5⟩:=and_5 hc
  obtain ⟨k1,k2⟩:=isA_ h1
  obtain ⟨ps,e1,hv,rfl,rfl⟩:=hev
  rw [k1,show hd (viewS st).ts = _ from k2,show (viewS st).a = _ from isT_ h3]
  exact snd_asgL S hN ((le_all n).l hv).1 (eq_of_beq h2) (((le_all n).l hv).2 ▸ Nat.le_of_ble_eq_true h4) ((ih_all hA hC n).l m penv G K R N Z O ev _ l ps e1 s S hK hN h5 hv I _)
 | asgD x l =>
  obtain ⟨h1,h2,h3,h4,h5⟩:=and_5 hc
  obtain ⟨k1,k2⟩:=isA_ h1
  obtain ⟨ps,e1,hv,rfl,rfl⟩:=hev
  obtain ⟨i1,i2,i3⟩:=chkD_keys h5
  rw [k1,show hd (viewS st).ts = _ from k2,show (viewS st).a = _ from isT_ h3]
  refine snd_asgD S hN ((le_all n).d hv).1 I (eq_of_beq h2) ((le_all n).d hv).2 (i3 ▸ Nat.le_of_lt (Nat.le_of_ble_eq_true h4)) i1 i2 (fun hk => ?_) fun s₁ Z₁ I₁ => (ih_all hA hC n).d m penv G K R N Z₁ O ev _ _ l ps e1 s₁ S hK hN h5 hv I₁ _
  rw [hk] at i3
  obtain rfl:l = []:=List.length_eq_zero_iff.mp i3.symm
  cases n with
  | zero => exact (nS hv).elim
  | succ n => exact ⟨(som hv).1.symm,(som hv).2.symm⟩
 | unp xs a =>
  obtain ⟨h1,h2,h3,h4,h5⟩:=and_5 hc
  obtain ⟨k1,k2⟩:=isA_ h1
  obtain ⟨p,e1,hv,rfl,h⟩:=hev
  rw [k1,show hd (viewS st).ts = _ from k2]
  exact snd_unp hA.hd S hN (LE hv) h2 h3 h4 h (HE hN h5 hv I)
 | aug x op a =>
  obtain ⟨h1,h2,h3,h4,h5⟩:=and_5 hc
  obtain ⟨i,j,e1,z,hv,rfl,rfl,ht,hz⟩:=hev
  rw [show st = _ from isS_ h1,show (viewS st).a = _ from isT_ h2]
  exact snd_aug S hN (LE hv) I (eq_of_beq h3) h4 ht hz (HE hN h5 hv I)
 | app x a =>
  obtain ⟨h1,h2,h3,h4,h5⟩:=and_5 hc
  obtain ⟨j1,j2⟩:=isM_ h2
  obtain ⟨k1,k2⟩:=and_2 h3
  obtain ⟨i1,i2⟩:=and_2 h4
  obtain ⟨v,e1,l,hv,rfl,rfl,ht,hlim⟩:=hev
  rw [show st = _ from isS_ h1,j1,show mO (viewS st).a = _ from isT_ k1,isOne_ i1]
  exact snd_app hA.hd S hN (LE hv) I (eq_of_beq k2) rfl j2 i2 ht hlim (HE hN h5 hv I)
 | set x a b =>
  obtain ⟨h1,h2,h3,h4,h5⟩:=and_5 hc
  obtain ⟨k1,k2⟩:=isA_ h1
  obtain ⟨i1,i2⟩:=and_2 h2
  obtain ⟨j1,j2⟩:=and_2 h3
  obtain ⟨v,e1,i,e2,l,hv,hk,rfl,rfl,ht,hlim⟩:=hev
  rw [k1,show hd (viewS st).ts = _ from k2,show (view (hd (viewS st).ts)).a = _ from isT_ i1]
  exact snd_set hA.hd S hN (LE hv) (LE hk) (eq_of_beq i2) j1 ht hlim (HE hN h4 hv I) fun s₁ I₁ => HE ((LE hv).len hN) h5 hk I₁
 | ifs t a b =>
  obtain ⟨h1,h2,h3,h4⟩:=and_4 hc
  obtain ⟨c,e1,hv,hev⟩:=hev
  have L:=(le_all n).t hv
  intro Q E hQ
  rw [show st = _ from isS_ h1]
  refine wpAny_If ((ih_all hA hC n).t m penv G K R N Z O ev _ t c e1 s S hK hN h2 hv I _ _ fun s₁ X1 z1 I1 => ?_)
  have A1:=After.ofE X1 z1 L I1
  cases c with
  | true => exact HB n (Nat.le_refl _) m penv G K R N Z O e1 _ a fl ev' s₁ S hK (L.len hN) h3 hev I1 _ _ fun s₂ f O₂ b ok => hQ s₂ f O₂ (A1.trans b) ok
  | false => exact HB n (Nat.le_refl _) m penv G K R N Z O e1 _ b fl ev' s₁ S hK (L.len hN) h4 hev I1 _ _ fun s₂ f O₂ b ok => hQ s₂ f O₂ (A1.trans b) ok
 | for1 x it b => exact stepFor1 hA hC (HB n (Nat.le_refl _)) S hK hN hc hev I
 | forn xs it b => exact stepFor hA hC (HB n (Nat.le_refl _)) S hK hN hc hev I
 | wh t b => exact stepWh hA hC HB S hK hN hc hev I
 | ret a =>
  obtain ⟨h1,h2,h3⟩:=and_3 hc
  obtain ⟨p,hv,rfl⟩:=hev
  rw [show st = _ from isS_ h1,some_get h2]
  exact snd_ret (LE hv) (HE hN h3 hv I)
end
end
section
variable {w:World} {A:Around} {C:Calls} {d:Nat}
theorem ps_all (hA:AOk A d) (hC:CallsOk w C d):∀ n,∀ m ≤ n,PS w A C m ∧ PB w A C m:=by
 intro n
 induction n with
 | zero =>
  intro m hm
  obtain rfl:m = 0:=Nat.le_zero.mp hm
  exact ⟨fun _ _ _ _ _ _ _ _ _ _ _ _ _ _ _ _ _ _ h => (nn h).elim,fun _ _ _ _ _ _ _ _ _ _ _ _ _ _ _ _ _ _ h => (nn h).elim⟩
 | succ n ih =>
  intro m hm
  rcases Nat.lt_or_ge m (n + 1) with h | h
  ·exact ih m (Nat.le_of_lt_succ h)
  ·obtain rfl:m = n + 1:=Nat.le_antisymm hm h
   exact ⟨stepS hA hC fun k hk => (ih k hk).2,stepB (ih n (Nat.le_refl _)).1 (ih n (Nat.le_refl _)).2⟩
theorem pb_all (hA:AOk A d) (hC:CallsOk w C d) (n:Nat):PB w A C n:=(ps_all hA hC n n (Nat.le_refl _)).2
end
end
section
noncomputable def nodupB:List PySem.Str → Bool
 | [] => true
 | x :: r => !r.contains x && nodupB r
theorem nodupB_iff:∀ {l:List PySem.Str},nodupB l = true → l.Nodup
 | [],_ => .nil
 | x :: r,h => by
  have h:(!r.contains x && nodupB r) = true:=h
  simp only [Bool.and_eq_true,Bool.not_eq_true'] at h
  exact List.nodup_cons.mpr ⟨fun q => by rw [List.contains_iff_mem.mpr q] at h;exact absurd h.1 (by decide),nodupB_iff h.2⟩
noncomputable def rNm (sc:Scope):List PySem.Str:=(sc.names.filter fun q => q.2 == .local || q.2 == .cell).map (·.1)
noncomputable def rTab (f:Nat):List (PySem.Str × Nat):=(rNm (fSc f)).zipIdx
noncomputable def gTab (f:Nat):List PySem.Str:=((fSc f).names.filter fun q => q.2 == .globalImplicit).map (·.1)
noncomputable def kTab (f:Nat):List PySem.Str:=((fSc f).names.filter fun q => q.2 == .cell).map (·.1)
noncomputable def fTie (f:Nat):Bool:=chkB 60 (gTab f) (kTab f) (rTab f) (fBd f) (FT f).body
noncomputable def fFacts (f:Nat):Bool:=(fSc f).kind == .function && !(fSc f).isCoroutine && !(fSc f).isGenerator && nodupB ((fSc f).names.map (·.1)) && (fPar f).args.map (·.arg) == (rNm (fSc f)).take (npOf f) && npOf f == (FT f).np && Nat.ble (rNm (fSc f)).length (FT f).nl && Nat.ble (FT f).np (rNm (fSc f)).length
 && (fSc f).names.all fun q => !(q.1 == ("__debug__" : PySem.Str))
theorem facts_all:(List.range 18).all (fun f => f == 0 || fFacts f) = true:=by kernel_rfl
theorem tie_1:fTie 1 = true:=by kernel_rfl
theorem tie_2:fTie 2 = true:=by kernel_rfl
theorem tie_3:fTie 3 = true:=by kernel_rfl
theorem tie_4:fTie 4 = true:=by kernel_rfl
theorem tie_5:fTie 5 = true:=by kernel_rfl
theorem tie_6:fTie 6 = true:=by kernel_rfl
theorem tie_7:fTie 7 = true:=by kernel_rfl
theorem tie_8:fTie 8 = true:=by kernel_rfl
theorem tie_9:fTie 9 = true:=by kernel_rfl
theorem tie_10:fTie 10 = true:=by kernel_rfl
theorem tie_11:fTie 11 = true:=by kernel_rfl
theorem tie_12:fTie 12 = true:=by kernel_rfl
theorem tie_13:fTie 13 = true:=by kernel_rfl
theorem tie_14:fTie 14 = true:=by kernel_rfl
theorem tie_15:fTie 15 = true:=by kernel_rfl
theorem tie_16:fTie 16 = true:=by kernel_rfl
theorem tie_17:fTie 17 = true:=by kernel_rfl
theorem tie_all {f:Nat} (h0:0 < f) (h:f < 18):fTie f = true:=lt18 (P:=fun f => 0 < f → fTie f = true) nofun (fun _ => tie_1) (fun _ => tie_2) (fun _ => tie_3) (fun _ => tie_4) (fun _ => tie_5) (fun _ => tie_6) (fun _ => tie_7) (fun _ => tie_8) (fun _ => tie_9) (fun _ => tie_10) (fun _ => tie_11) (fun _ => tie_12) (fun _ => tie_13) (fun _ => tie_14) (fun _ => tie_15) (fun _ => tie_16) (fun _ => tie_17) h h0
end
section
structure Facts (f:Nat):Prop where
 fn:(fSc f).kind = .function
 co:(fSc f).isCoroutine = false
 gen:(fSc f).isGenerator = false
 nd:((fSc f).names.map (·.1)).Nodup
 par:(fPar f).args.map (·.arg) = (rNm (fSc f)).take (npOf f)
 np:npOf f = (FT f).np
 nl:(rNm (fSc f)).length ≤ (FT f).nl
 nr:(FT f).np ≤ (rNm (fSc f)).length
 dbg:∀ q ∈ (fSc f).names,(q.1 == ("__debug__" : PySem.Str)) = false
theorem facts_of {f:Nat} (h0:0 < f) (h:f < 18):Facts f:=by
 have:=List.all_eq_true.mp facts_all f (List.mem_range.mpr h)
 rw [Bool.or_eq_true,beq_iff_eq] at this
 have:=this.resolve_left (Nat.ne_of_gt h0)
 unfold fFacts at this
 simp only [Bool.and_eq_true,beq_iff_eq,Bool.not_eq_true',Nat.ble_eq,List.all_eq_true] at this
 obtain ⟨⟨⟨⟨⟨⟨⟨⟨h1,h2⟩,h3⟩,h4⟩,h5⟩,h6⟩,h7⟩,h8⟩,h9⟩:=this
 exact ⟨h1,h2,h3,nodupB_iff h4,h5,h6,h7,h8,h9⟩
theorem lookup_nd {α:Type}:∀ {l:List (PySem.Str × α)} {x:PySem.Str} {k:α},(l.map (·.1)).Nodup → (x,k) ∈ l → l.lookup x = some k
 | (y,j) :: r,x,k,nd,h => by
  rw [List.map_cons,List.nodup_cons] at nd
  rw [List.lookup_cons]
  rcases List.mem_cons.mp h with e | h'
  ·cases e;simp
  ·have hm:x ∈ r.map (·.1):=List.mem_map.mpr ⟨_,h',rfl⟩
   have:(x == y) = false:=by
    rw [beq_eq_false_iff_ne];intro q;exact nd.1 (q ▸ hm)
   rw [this];exact lookup_nd nd.2 h'
theorem zip_lookup {l:List PySem.Str} {x:PySem.Str} {i:Nat} (h:l.zipIdx.lookup x = some i):l[i]? = some x:=by
 have:=mem_of_lookup h
 simpa [List.mem_zipIdx_iff_getElem?] using this
theorem rNm_mem {sc:Scope} {x:PySem.Str} (h:x ∈ rNm sc):∃ k,(x,k) ∈ sc.names ∧ (k = .local ∨ k = .cell):=by
 unfold rNm at h
 obtain ⟨⟨y,k⟩,hm,rfl⟩:=List.mem_map.mp h
 obtain ⟨h1,h2⟩:=List.mem_filter.mp hm
 exact ⟨k,h1,by simpa using h2⟩
theorem cells_some:∀ (names:List (PySem.Str × NameKind)) (n:Nat) (acc:List (PySem.Str × Addr)) (x:PySem.Str),((x,NameKind.cell) ∈ names ∨ (acc.lookup x).isSome = true) → ((cellsFrom n names acc).lookup x).isSome = true
 | [],n,acc,x,h => by
  rcases h with h | h
  ·cases h
  ·exact h
 | (y,kind) :: r,n,acc,x,h => by
  unfold cellsFrom
  by_cases hk:(kind == NameKind.cell) = true
  ·rw [if_pos hk]
   refine cells_some r _ _ x ?_
   rcases h with h | h
   ·rcases List.mem_cons.mp h with e | h
    ·cases e;right;simp
    ·exact .inl h
   ·right
    rw [List.lookup_cons]
    split <;> simp [h]
  ·rw [if_neg hk]
   refine cells_some r _ _ x ?_
   rcases h with h | h
   ·rcases List.mem_cons.mp h with e | h
    ·cases e;exact absurd rfl hk
    ·exact .inl h
   ·exact .inr h
theorem bindL_skip {ko:PySem.Str → Option NameKind} {x:PySem.Str}:∀ (b:List (PySem.Str × Value)) (m:PySem.Str → Option Value),x ∉ b.map (·.1) → bindL ko b m x = m x
 | [],_,_ => rfl
 | (y,u) :: r,m,h => by
  rw [List.map_cons,List.mem_cons,not_or] at h
  unfold bindL
  rw [bindL_skip r _ h.2]
  split
  ·simp [h.1]
  ·rfl
theorem bindC_skip {ko:PySem.Str → Option NameKind} {x:PySem.Str}:∀ (b:List (PySem.Str × Value)) (m:PySem.Str → Option Value),x ∉ b.map (·.1) → bindC ko b m x = m x
 | [],_,_ => rfl
 | (y,u) :: r,m,h => by
  rw [List.map_cons,List.mem_cons,not_or] at h
  unfold bindC
  rw [bindC_skip r _ h.2]
  split
  ·rfl
  ·simp [h.1]
theorem bindL_mem {ko:PySem.Str → Option NameKind} {x:PySem.Str} {v:Value} (hk:ko x = some .local):∀ (b:List (PySem.Str × Value)) (m:PySem.Str → Option Value),(b.map (·.1)).Nodup → (x,v) ∈ b → bindL ko b m x = some v
 | (y,u) :: r,m,nd,h => by
  rw [List.map_cons,List.nodup_cons] at nd
  unfold bindL
  rcases List.mem_cons.mp h with e | h
  ·cases e
   rw [bindL_skip r _ nd.1,if_pos hk];simp
  ·exact bindL_mem hk r _ nd.2 h
theorem bindC_mem {ko:PySem.Str → Option NameKind} {x:PySem.Str} {v:Value} (hk:ko x ≠ some .local):∀ (b:List (PySem.Str × Value)) (m:PySem.Str → Option Value),(b.map (·.1)).Nodup → (x,v) ∈ b → bindC ko b m x = some v
 | (y,u) :: r,m,nd,h => by
  rw [List.map_cons,List.nodup_cons] at nd
  unfold bindC
  rcases List.mem_cons.mp h with e | h
  ·cases e
   rw [bindC_skip r _ nd.1,if_neg hk];simp
  ·exact bindC_mem hk r _ nd.2 h
section
variable {w:World}
theorem ArgsRep.len {h:Heap} {X:Addr → Prop} {n:Nat} {vs:List Value} {l:List Slot} {U:Addr → Prop} (a:ArgsRep w h X n vs l U):vs.length = l.length:=by
 induction a with
 | nil => rfl
 | val _ _ ih => exact congrArg (· + 1) ih
 | own => rfl
noncomputable def ArgAt (w:World) (h:Heap) (X U:Addr → Prop) (n:Nat) (vs:List Value) (l:List Slot) (i:Nat) (t:Slot):Prop:=∃ v,vs[i]? = some v ∧ ∃ D,SlotRep w h (fun b => X b ∨ U b) n D v t ∧ (t.own = true → U D ∧ (∀ b,U b → b = D) ∧ ¬ X D ∧ 188 ≤ D ∧ i + 1 = l.length ∧ ∃ o,h.get? D = some o)
theorem ArgsRep.get {h:Heap} {X:Addr → Prop} {n:Nat} {vs:List Value} {l:List Slot} {U:Addr → Prop} (a:ArgsRep w h X n vs l U):∀ {i:Nat} {t:Slot},l[i]? = some t → ArgAt w h X U n vs l i t:=by
 induction a with
 | nil => intro i t e;exact (nS e).elim
 | val r q ih =>
  intro i t e
  cases i with
  | zero => cases e;exact ⟨_,rfl,0,r,nofun⟩
  | succ i =>
   obtain ⟨v,h1,D,h2,h3⟩:=ih (i:=i) (t:=t) e
   refine ⟨v,h1,D,h2,fun ho => ?_⟩
   obtain ⟨a,b,c,d,e,f⟩:=h3 ho
   exact ⟨a,b,c,d,congrArg (· + 1) e,f⟩
 | own r hx lo =>
  intro i t e
  cases i with
  | zero =>
   cases e
   exact ⟨_,rfl,_,r,fun _ => ⟨rfl,fun b h => h,hx,lo,rfl,by obtain ⟨_,kvs,ep,⟨o,es,e,_⟩,_⟩:=r;exact ⟨o,e⟩⟩⟩
  | succ i => exact (nS e).elim
theorem ArgsRep.uone {h:Heap} {X:Addr → Prop} {n:Nat} {vs:List Value} {l:List Slot} {U:Addr → Prop} (a:ArgsRep w h X n vs l U):(∀ b,¬ U b) ∨ ∃ D,U = (· = D):=by
 induction a with
 | nil => exact .inl fun _ h => h
 | val _ _ ih => exact ih
 | own => exact .inr ⟨_,rfl⟩
end
section
variable {M:Model} {A:Around} {E:Value → Shared → Prop} {s:Shared}
theorem newEnv_tk {scope:Scope} {globals:Addr} {binds:List (PySem.Str × Value)} {qual:PySem.Str} {func:Option Addr} {code:Value} {builtins:Addr} {Q:Env → Shared → Prop}
  (hk:scope.kind = .function) (hl:1 ≤ s.toks ∨ ∃ n v r,binds = (n,v) :: r ∧ scope.names.lookup n = some .local)
  (hkind:∀ x ∈ binds,scope.names.lookup x.1 = some .local ∨ (scope.names.lookup x.1 = some .cell ∧ ((cellsFrom (s.heap.objs.size + 1) scope.names []).lookup x.1).isSome = true))
  (hQ:∀ env,env = newEnv scope s.heap.objs.size globals (cellsFrom (s.heap.objs.size + 1) scope.names []) qual func code none builtins →
   ∀ s',InCallC s env.locals (bindL env.kindOf binds fun _ => none) env.cells (bindC env.kindOf binds fun _ => none) s' → 1 ≤ s'.toks → Q env s') :
  wpAny M A (newFunctionEnv scope globals [] binds qual func code none builtins) Q E s:=by
 rcases hl with hl | ⟨n,v,r,rfl,hl⟩
 ·exact wpAny_grow (wpAny_newFunctionEnv_cells hk hkind fun env he s' x hz ht => hQ env he s' x (Nat.le_trans hl ht))
 ·simp only [newFunctionEnv,Option.isSome_none,Bool.false_eq_true,if_false]
  refine wpAny_bind (wpAny_alloc ?_)
  refine wpAny_bind (wpAny_layCells _ (fun name kind cells => by cases hkc:kind == NameKind.cell <;> simp [hkc]) _ _ _ _ ?_)
  have ok:=cellsFrom_ok scope.names (s.heap.push { cls:=.type "frame",data:=.dict #[] }) (s.heap.objs.size + 1) [] ⟨fun _ _ hm => (nomatch hm),List.Pairwise.nil⟩ (by rw [Heap.size_push];exact Nat.le_refl _)
  rw [Heap.size_push] at ok
  rw [show ({ s with heap:=s.heap.push { cls:=.type "frame",data:=.dict #[] } }:Shared).heap.objs.size = s.heap.objs.size + 1 from Heap.size_push ..]
  have x0:InCallC s s.heap.objs.size (fun _ => none) (cellsFrom (s.heap.objs.size + 1) scope.names []) (fun _ => none) { s with heap:=pushCells (s.heap.push { cls:=.type "frame",data:=.dict #[] }) scope.names } :=
   ⟨⟨⟨_,_,rfl⟩,(Heap.Ns.new s.heap (.type "frame")).keeps (pushCells_keeps _ _),fun b o e => pushCells_keeps _ _ b o (Heap.get?_push_of_some _ e),Nat.le_refl _⟩,
    fun n c hc => (ok.empty n c (mem_of_lookup hc)).1,ok.apart,fun n c hm => (ok.empty n c hm).2⟩
  refine wpAny_bind ?_
  rw [List.forIn_cons]
  have hr:∀ y ∈ r,(newEnv scope s.heap.objs.size globals (cellsFrom (s.heap.objs.size + 1) scope.names []) qual func code none builtins).kindOf y.1 = some .local ∨ ((newEnv scope s.heap.objs.size globals (cellsFrom (s.heap.objs.size + 1) scope.names []) qual func code none builtins).kindOf y.1 = some .cell ∧ ((newEnv scope s.heap.objs.size globals (cellsFrom (s.heap.objs.size + 1) scope.names []) qual func code none builtins).cells.lookup y.1).isSome = true):=fun y hy => hkind y (List.mem_cons_of_mem _ hy)
  refine wpAny_bind (wpAny_bind (wpAny_storeName_local (env:=newEnv scope s.heap.objs.size globals (cellsFrom (s.heap.objs.size + 1) scope.names []) qual func code none builtins) hl x0.toInCall.ns (fun h' hn' hs' => wpAny_pure ?_) (by show (scope.kind == .class || (scope.kind == .module && _)) = false;rw [hk];rfl)))
  refine wpAny_grow (wpAny_bindParams (s₀:=s) (env:=newEnv scope s.heap.objs.size globals (cellsFrom (s.heap.objs.size + 1) scope.names []) qual func code none builtins)
   _ (fun _ _ _ => rfl) hk r (fun y => if y = n then some v else none) (fun _ => none) _ _ ⟨⟨⟨h',_,rfl⟩,hn',fun b o e => ?_,x0.toInCall.fresh⟩,fun k c hc => ?_,x0.apart,x0.above⟩ hr fun s'' x'' hz ht => wpAny_pure (hQ _ rfl s'' ?_ ?_))
  ·exact hs'.extBut b o (Nat.ne_of_lt (Heap.lt_size e)) (x0.toInCall.keep b o e)
  ·exact (x0.cell k c hc).sameBut hs' (Nat.ne_of_gt (x0.above k c (mem_of_lookup hc)))
  ·have hl':(newEnv scope s.heap.objs.size globals (cellsFrom (s.heap.objs.size + 1) scope.names []) qual func code none builtins).kindOf n = some .local:=hl
   unfold bindL bindC;rw [if_pos hl',if_pos hl'];exact x''
  ·exact Nat.le_trans (Nat.le_add_left 1 _) ht
end
end
section
section
variable {w:World}
theorem getS_args {args:List Slot} {k i:Nat} {t:Slot} (h:getS (args.map some ++ List.replicate k none) i = some t):args[i]? = some t:=by
 unfold getS at h
 rcases Nat.lt_or_ge i args.length with q | q
 ·rw [List.getElem?_append_left (by simpa using q),List.getElem?_map] at h
  cases e:args[i]? with
  | none => rw [e] at h;exact (nS h).elim
  | some u => rw [e] at h;exact h
 ·rw [List.getElem?_append_right (by simpa using q),List.getElem?_replicate] at h
  split at h <;> cases h
theorem first_17 {vs:List Value} (h:vs.length = 1):∃ n v r,bindsOf 17 vs = (n,v) :: r ∧ (fSc 17).names.lookup n = some .local:=by
 obtain ⟨v,rfl⟩:=List.length_eq_one_iff.mp h
 exact ⟨_,v,[],rfl,by decide +kernel⟩
theorem call_step {d:Nat} (ih:CallsOk w (callN FT d) d) {f:Nat} {args:List Slot} {p:PV} (hc:callN FT (d + 1) f args = some p) (h0:0 < f) (h18:f < 18) (A:Around) (Z U:Addr → Prop) (s:Shared) (vs:List Value) (Q:Value → Shared → Prop) (E:Value → Shared → Prop)
  (hA:AOk A (d + 1)) (I:(KF w.params).In s.heap) (pos:1 ≤ s.toks ∨ f = 17) (hZ:∀ a,Z a → a < s.heap.objs.size) (hlow:∀ a,Low a → Z a) (ar:ArgsRep w s.heap Z s.toks vs args U) (hQ:∀ s' v,Chg U noG s s' → Rep w s'.heap Z s'.toks v p → Q v s'):wpAny (model pw w) A (call (.ref (fA f)) vs) Q E s:=by
  have F:=facts_of h0 h18
  obtain ⟨hlen,hc⟩:=if_then (c:=(args.length == (FT f).np) = true) hc
  rw [beq_iff_eq] at hlen
  obtain ⟨o,pm,cd,doc,eo,ho,hcd⟩:=fn_obj I h18
  have hroom:A.depth < recursionLimit:=by have:=hA.dep;show _ < 1000;lia
  have hvl:vs.length = npOf f:=by rw [ar.len,hlen,F.np]
  have hL:188 ≤ s.heap.objs.size:=kf_size I
  have rnd:(rNm (fSc f)).Nodup:=(List.Sublist.map _ List.filter_sublist).nodup F.nd
  have hbn:(bindsOf f vs).map (·.1) = (rNm (fSc f)).take (npOf f):=by
   unfold bindsOf
   rw [F.par,List.map_fst_zip]
   simp [hvl,Nat.min_le_left]
  have bnd:((bindsOf f vs).map (·.1)).Nodup:=by rw [hbn];exact (List.take_sublist ..).nodup rnd
  have hkd:∀ {x},x ∈ rNm (fSc f) → (fSc f).names.lookup x = some .local ∨ ((fSc f).names.lookup x = some .cell ∧ ((cellsFrom (s.heap.objs.size + 1) (fSc f).names []).lookup x).isSome = true):=fun {x} hx => by
   obtain ⟨k,hm,rfl | rfl⟩:=rNm_mem hx
   ·exact .inl (lookup_nd F.nd hm)
   ·exact .inr ⟨lookup_nd F.nd hm,cells_some _ _ _ _ (.inl hm)⟩
  refine wpAny_call (codeAny_call_function hroom eo ho F.co F.gen rfl hcd (wpAny_of_eq (bind_all h18 hvl) ?_))
  refine wpAny_grow (newEnv_tk F.fn (pos.imp id fun e => by subst e;exact first_17 hvl) (fun x hx => hkd ?_) fun env he s₁ x ht1 hz ht => ?_)
  ·have:x.1 ∈ (bindsOf f vs).map (·.1):=List.mem_map_of_mem hx
   rw [hbn] at this
   exact List.mem_of_mem_take this
  refine ⟨(nolimit I).keeps x.toInCall.keep,codeAny_func ?_⟩
  have hcells:env.cells = cellsFrom (s.heap.objs.size + 1) (fSc f).names []:=by rw [he];rfl
  have hloc:env.locals = s.heap.objs.size:=by rw [he];rfl
  have hscope:env.scope = fSc f:=by rw [he];rfl
  have hglob:env.globals = mainGlobals:=by rw [he];rfl
  have hbi:env.builtins = builtinsNs:=by rw [he];rfl
  have hko:∀ y,env.kindOf y = (fSc f).names.lookup y:=fun y => by unfold Env.kindOf;rw [hscope]
  clear he
  have hcl:∀ y c,env.cells.lookup y = some c → s.heap.objs.size < c:=fun y c h => by rw [← hloc];exact x.above y c (mem_of_lookup h)
  have S:Stat env (gTab f) (rTab f) (FT f).nl:=by
   refine ⟨by rw [hscope];exact F.fn,by rw [hscope];exact F.co,hglob,hbi,by rw [hloc];exact hL,fun y hy => ?_,fun y i hy => ?_,fun y c hc => ⟨by rw [hloc];exact Nat.ne_of_gt (hcl y c hc),Nat.le_trans hL (Nat.le_of_lt (hcl y c hc))⟩,
    fun y z c h1 h2 => name_of_addr x.apart (mem_of_lookup h1) (mem_of_lookup h2),fun y z i h1 h2 => ?_,fun y i h => ?_,fun y i h => ?_⟩
   ·rw [hko]
    obtain ⟨⟨z,k⟩,hm,rfl⟩:=List.mem_map.mp hy
    obtain ⟨h1,h2⟩:=List.mem_filter.mp hm
    obtain rfl:k = .globalImplicit:=by simpa using h2
    exact lookup_nd F.nd h1
   ·rw [hko,hcells]
    exact (hkd (List.mem_of_getElem? (zip_lookup hy))).imp id fun ⟨a,b⟩ => ⟨a,Option.isSome_iff_exists.mp b⟩
   ·exact Option.some.inj ((zip_lookup h1).symm.trans (zip_lookup h2))
   ·have:=zip_lookup h
    obtain ⟨h1,_⟩:=List.getElem?_eq_some_iff.mp this
    exact Nat.lt_of_lt_of_le h1 F.nl
   ·obtain ⟨k,hm,_⟩:=rNm_mem (List.mem_of_getElem? (zip_lookup h))
    exact F.dbg _ hm
  have hK:KOk env (kTab f):=fun y hy => by
   obtain ⟨⟨z,k⟩,hm,rfl⟩:=List.mem_map.mp hy
   obtain ⟨h1,h2⟩:=List.mem_filter.mp hm
   obtain rfl:k = .cell:=by simpa using h2
   rw [hko,hcells]
   exact ⟨lookup_nd F.nd h1,Option.isSome_iff_exists.mp (cells_some _ _ _ _ (.inl h1))⟩
  obtain ⟨O,hO⟩:∃ O:Nat → Addr,∀ j D,U D → O j = D:=by
   rcases ar.uone with h | ⟨D,rfl⟩
   ·exact ⟨fun _ => 0,fun j D q => (h D q).elim⟩
   ·exact ⟨fun _ => D,fun j D' q => q.symm⟩
  have c1:Chg noA noG s s₁:=by
   obtain ⟨h,tk,rfl⟩:=x.toInCall.same
   exact ⟨fun b o _ e => x.toInCall.keep b o e,fun _ _ _ e => e,fun _ _ e => .inl e,rfl,ht⟩
  have keep:∀ b o,s.heap.get? b = some o → s₁.heap.get? b = some o:=x.toInCall.keep
  have none0:∀ b,s.heap.objs.size ≤ b → s.heap.get? b = none:=fun b h => Heap.get?_none_of_le h
  generalize hev:args.map some ++ List.replicate ((FT f).nl - (FT f).np) none = ev₀ at hc
  have hget:∀ {i t},getS ev₀ i = some t → args[i]? = some t:=fun h => getS_args (hev ▸ h)
  have hN:ev₀.length = (FT f).nl:=by
   rw [← hev,List.length_append,List.length_map,List.length_replicate,hlen]
   have:=F.nr;have:=F.nl;lia
  have hxs:∀ b,XS Z env O ev₀ b → (Z b ∨ U b) ∨ s.heap.get? b = none:=by
   rintro b (q | q | q | ⟨y,q⟩ | ⟨i,t,hg,how,rfl⟩)
   ·exact .inl (.inl (hlow b q))
   ·exact .inl (.inl q)
   ·exact .inr (none0 b (by rw [q,hloc];exact Nat.le_refl _))
   ·exact .inr (none0 b (Nat.le_of_lt (hcl y b q)))
   ·obtain ⟨v,_,D,_,h3⟩:=ar.get (hget hg)
    obtain ⟨hU,_⟩:=h3 how
    rw [hO i D hU]
    exact .inl (.inr hU)
  have Iv:Inv w env (rTab f) Z O ev₀ s₁.heap s₁.toks:=by
   refine ⟨ht1,fun a o q => keep a o (I a o q),⟨_,x.toInCall.ns⟩,fun a q => Nat.lt_of_lt_of_le (hZ a q) hz,fun y c h => ⟨_,x.cell y c h⟩,fun y i t hy hg => ?_,fun i j t u hi ht hj hu _ => ?_,fun i t hg how => ?_⟩
   ·obtain ⟨v,hv,D,hr,how⟩:=ar.get (hget hg)
    have hil:i < npOf f:=by
     rw [← hvl]
     exact (List.getElem?_eq_some_iff.mp hv).1
    have hm:(y,v) ∈ bindsOf f vs:=by
     unfold bindsOf
     rw [F.par]
     refine List.mem_of_getElem? (i:=i) ?_
     rw [List.getElem?_zip_eq_some]
     refine ⟨?_,hv⟩
     rw [List.getElem?_take,if_pos hil]
     exact zip_lookup hy
    refine ⟨v,?_,?_⟩
    ·rcases S.kinds y i hy with kk | ⟨kk,c,hc⟩
     ·exact .inl ⟨kk,_,x.toInCall.ns,bindL_mem kk _ _ bnd hm⟩
     ·refine .inr ⟨kk,c,hc,?_⟩
      have:=x.cell y c hc
      rw [bindC_mem (by rw [kk];decide) _ _ bnd hm] at this
      exact this
    ·have h1:=hr.chg (h':=s₁.heap) (Y:=XS Z env O ev₀) (n':=s₁.toks) (fun b o _ e => keep b o e) hxs ht (fun _ o e => keep _ o e)
     cases t with
     | val p => exact h1
     | ownL l => rw [hO i D (how rfl).1];exact h1
     | ownD l => rw [hO i D (how rfl).1];exact h1
   ·obtain ⟨v,_,D,_,h3⟩:=ar.get (hget hi)
    obtain ⟨v',_,D',_,h3'⟩:=ar.get (hget hj)
    obtain ⟨_,_,_,_,q,_⟩:=h3 ht
    obtain ⟨_,_,_,_,q',_⟩:=h3' hu
    lia
   ·obtain ⟨v,_,D,_,h3⟩:=ar.get (hget hg)
    obtain ⟨hU,_,hD,hD8,_,o,e⟩:=h3 how
    have hlt:=Heap.lt_size e
    rw [hO i D hU]
    exact ⟨by rw [hloc];exact Nat.ne_of_lt hlt,hD8,fun y q => absurd (hcl y D q) (Nat.not_lt.mpr (Nat.le_of_lt hlt)),⟨o,keep D o e⟩,hD⟩
  have hA':AOk (A.deeper env) d:=by
   refine ⟨hA.hd,?_,?_⟩
   ·have:=hA.dep;show A.depth + 1 + d < 990;lia
   ·have:=hA.un;show A.units + 3 + 8 * d + 300 < cLine;lia
  have fin:∀ {O' e' s' v q},After w env (rTab f) Z O ev₀ s₁ O' e' s' → Rep w s'.heap (XS Z env O' e') s'.toks v q → q = p → Q v s':=fun {O' e' s' v q} a r hq => by
   subst hq
   refine hQ s' v ?_ (r.mono (fun _ _ _ e => e) (fun b q => .inl (xs_z q)) (Nat.le_refl _))
   refine (c1.mono (fun _ q => q.elim) (fun _ q => .inl q)).trans a.chg (fun b hb => ?_) (fun i q => q.elim)
   rcases hb with q | ⟨y,q⟩ | ⟨i,t,hg,how,rfl⟩
   ·exact .inr (none0 b (by rw [q,hloc];exact Nat.le_refl _))
   ·exact .inr (none0 b (Nat.le_of_lt (hcl y b q)))
   ·obtain ⟨v,_,D,_,h3⟩:=ar.get (hget hg)
    obtain ⟨hU,_⟩:=h3 how
    rw [hO i D hU]
    exact .inl hU
  have run:∀ {fl e'},exB (callN FT d) depthN ev₀ (FT f).body = some (fl,e') → SndX w (A.deeper env) env (rTab f) Z O ev₀ s₁ (execs (fBd f) env) fl e':=fun {fl e'} h =>
   pb_all hA' ih depthN 60 env (gTab f) (kTab f) (rTab f) (FT f).nl Z O ev₀ (fBd f) (FT f).body fl e' s₁ S hK hN (tie_all h0 h18) h Iv
  cases hx:exB (callN FT d) depthN ev₀ (FT f).body with
  | none => rw [hx] at hc;exact (nS hc).elim
  | some r =>
   obtain ⟨fl,e'⟩:=r
   rw [hx] at hc
   refine run hx _ _ fun s' fl' O' a ok => ?_
   cases fl with
   | next =>
    obtain rfl:fl' = .next:=ok
    cases hc
    exact fin a .none rfl
   | ret q =>
    obtain ⟨v,rfl,r⟩:=ok
    cases hc
    exact fin a r rfl
theorem calls_ok:∀ d,CallsOk w (callN FT d) d
 | 0 => fun _ _ _ h => (nS h).elim
 | d + 1 => fun _ _ _ hc h0 h18 A Z U s vs Q E hA I pos hZ hlow ar hQ => call_step (calls_ok d) hc h0 h18 A Z U s vs Q E hA I (.inl pos) hZ hlow ar hQ
end
end
section
section
theorem has_int {d:WData} (h:WShape.has rw0.row.records d .int = true):∃ i,d = .int i:=by
 cases d with
 | int i => exact ⟨i,rfl⟩
 | _ => exact (Bool.false_ne_true h).elim
theorem allW_nil {R:WRecords} {cl:PySem.Str → Option Addr} {h:Heap} {vs:List Value} {as:List Addr} (r:ReadsAllW R cl h vs [] as):vs = [] ∧ as = []:=by cases r;exact ⟨rfl,rfl⟩
theorem allW_cons {R:WRecords} {cl:PySem.Str → Option Addr} {h:Heap} {vs:List Value} {d:WData} {ds:List WData} {as:List Addr} (r:ReadsAllW R cl h vs (d :: ds) as):∃ v vs' a b,vs = v :: vs' ∧ as = a ++ b ∧ ReadsW R cl h v d a ∧ ReadsAllW R cl h vs' ds b:=by
 cases r with | cons r1 r2 => exact ⟨_,_,_,_,rfl,rfl,r1,r2⟩
theorem argints_of {R:WRecords} {cl:PySem.Str → Option Addr} {h:Heap} (xs:List WData):∀ (vs:List Value) (as:List Addr),WShape.hasItems rw0.row.records xs .int = true → ReadsAllW R cl h vs xs as → ∃ l:List Int,l.length = xs.length ∧ ∀ w X n,Reps w h X n vs (l.map .int):=by
 induction xs with
 | nil => intro vs as _ r;obtain ⟨rfl,_⟩:=allW_nil r;exact ⟨[],rfl,fun _ _ _ => .nil⟩
 | cons d xs ih =>
  intro vs as hs r
  obtain ⟨h1,h2⟩:=and_2 hs
  obtain ⟨i,rfl⟩:=has_int h1
  obtain ⟨v,vs',a,b,rfl,_,r1,r2⟩:=allW_cons r
  obtain ⟨t,rfl,_⟩:=readsW_int_inv r1
  obtain ⟨l,h3,h4⟩:=ih _ _ h2 r2
  exact ⟨i :: l,congrArg (· + 1) h3,fun w X n => .cons (.int i _) (h4 w X n)⟩
noncomputable def isLst (o:Obj):Bool:=match o.cls with | .type "list" => true | _ => false
theorem no_list (P:Params):(List.range 188).all (fun i => i == 57 || i == 59 || i == 63 || !isLst (nsO P i)) = true:=by kernel_rfl
theorem holds_no {R:WRecords} {t:WTm} {e:WCtx} (h:t.value R e = some (.bool false)):t.holds R e = false:=by unfold WTm.holds;rw [h]
theorem holds_yes {R:WRecords} {t:WTm} {e:WCtx} (h:t.value R e = some (.bool true)):t.holds R e = true:=by unfold WTm.holds;rw [h]
theorem pre_len {xs:List WData} (h:WTm.holds rw0.row.records (.and (.not (.lt (.lit (.int 63)) (.len (.arg 0)))) (.lit (.bool true))) { args:=[.list xs] } = true):xs.length ≤ 63:=by
 rcases Nat.lt_or_ge 63 xs.length with h1 | h1
 ·have h2:=holds_no (R:=rw0.row.records) (e:={ args:=[.list xs] }) (w_and (w_not (w_lt (w_lit (d:=.int 63)) (w_len_list (w_arg (i:=0) (d:=.list xs) rfl)))) (w_lit (d:=.bool true)) |>.trans (by rw [decide_eq_true (show (63:Int) < ↑xs.length from Int.ofNat_lt.mpr h1)];rfl))
  exact (Bool.false_ne_true (h2.symm.trans h)).elim
 ·exact h1
theorem post_ok {xs:List WData}:(WShape.has rw0.row.records (.bool true) .bool && WTm.holds rw0.row.records (.eq .res (.lit (.bool true))) { args:=[.list xs],res:=some (.bool true),after:=[.list xs] }) = true:=by
 rw [Bool.and_eq_true]
 exact ⟨rfl,holds_yes (w_eq_bool (w_res (d:=.bool true) rfl) (w_lit (d:=.bool true)))⟩
theorem not_low {w:World} {h:Heap} (I:(KF w.params).In h) {la:Addr} {lo:Obj} (e1:h.get? la = some lo) (e2:lo.cls = .type "list"):¬ Low la:=fun hL => by
 have e:=kf_get I (kf_some (P:=w.params) hL.1)
 rw [e1] at e
 have this:=List.all_eq_true.mp (no_list w.params) la (List.mem_range.mpr hL.1)
 rw [← show lo = nsO w.params la from Option.some.inj e,(beq_eq_false_iff_ne (a:=la)).mpr hL.2.1,(beq_eq_false_iff_ne (a:=la)).mpr hL.2.2.1,(beq_eq_false_iff_ne (a:=la)).mpr hL.2.2.2] at this
 unfold isLst at this
 rw [e2] at this
 exact Bool.false_ne_true this
theorem args_of {args:List WData} {vals:List Value} {as:List Addr} {h:Heap} {cl:PySem.Str → Option Addr} (hs:WShape.hasAll rw0.row.records args [.list .int] = true) (hrd:ReadsAllW rw0.row.records cl h vals args as) :
  ∃ xs la lo vs kk,∃ l:List Int,(args,vals) = ([WData.list xs],[Value.ref la]) ∧ h.get? la = some lo ∧ lo.cls = .type "list" ∧ lo.data = .seq vs kk ∧ l.length = xs.length ∧ ∀ w X n,Reps w h X n vs.toList (l.map .int):=by
 cases args with
 | nil => exact (Bool.false_ne_true hs).elim
 | cons d ds =>
  obtain ⟨hs1,hs2⟩:=and_2 hs
  cases ds with
  | cons d2 ds2 => exact (Bool.false_ne_true hs2).elim
  | nil =>
   cases d with
   | list xs =>
    have hi:WShape.hasItems rw0.row.records xs .int = true:=by
     have h0:(WShape.hasItems rw0.row.records xs .int || false) = true:=hs1
     rwa [Bool.or_false] at h0
    obtain ⟨v,vs',a1,b1,rfl,_,r1,r2⟩:=allW_cons hrd
    obtain ⟨rfl,_⟩:=allW_nil r2
    obtain ⟨la,lo,vs,kk,as',rfl,e1,e2,e3,r3,_⟩:=readsW_list_open r1
    obtain ⟨l,hl,hr⟩:=argints_of xs _ _ hi r3
    exact ⟨xs,la,lo,vs,kk,l,rfl,e1,e2,e3,hl,hr⟩
   | _ => exact (Bool.false_ne_true hs1).elim
theorem call_goal (law:∀ l:List Int,l.length ≤ 63 → callN FT 12 17 [.val (.list (l.map .int))] = some (.bool true)):CallGoal:=by
 intro w s₀ s₁ mg mb G Y a o pm cd doc dV kV ho hdata hcd hdf hname hgens args vals as hpre hlay hrd hwell hsys
 have I:(KF w.params).In s₁.heap:=kIn_of Y
 have ha:a = fA 17:=by
  have h1:=ns_uniq (ns_of I (by decide) (nsOk1 _)) G.T.g
  have h2:=fn_glob w.params (f:=17) (by decide)
  have:mg (fnm 17) = some (.ref (fA 17)):=by rw [← h1];exact h2
  have h3:mg (fnm 17) = some (.ref a):=hname
  exact (Value.ref.inj (Option.some.inj (this.symm.trans h3))).symm
 subst ha
 obtain ⟨hs,hpr⟩:=and_2 (show (WShape.hasAll rw0.row.records args [.list .int] && WTm.holds rw0.row.records rw0.row.pre { args:=args }) = true from hpre)
 obtain ⟨xs,la,lo,vs,kk,l,he,e1,e2,e3,hl,hr⟩:=args_of hs hrd
 cases he
 refine call_step (calls_ok 11) (law l (hl ▸ pre_len hpr)) (by decide) (by decide) callerA Low noA s₁ _ _ _ ⟨rfl,by decide,by decide⟩ I (.inr rfl) (fun b hb => Nat.lt_of_lt_of_le hb.1 (kf_size I)) (fun _ h => h) (.val (.list ⟨lo,e1,e2,kk,e3⟩ (fun q => q.elim (not_low I e1 e2) id) (hr _ _ _)) .nil) fun s' v c r => ?_
 rw [r.boolE]
 refine ⟨.inl ⟨_,.bool true,[],rfl,fun _ => rfl,.bool true,post_ok,fun _ => ⟨.nil,fun _ h => nomatch h⟩⟩,.of_keep (fun b o e => c.heap b o id e),c.os,fun y hy => ?_⟩
 obtain ⟨i,hi⟩:=Array.mem_iff_getElem?.mp hy
 exact (c.fin i y hi).elim (fun h => nomatch (show (#[]:Array _)[i]? = some y from hgens ▸ h)) id
end
end
section
theorem ob {α β:Type} {o:Option α} {a:α} {f:α → Option β} {r:Option β} (h:o = some a) (h2:f a = r):o.bind f = r:=by rw [h];exact h2
section
variable {C:Calls} {n:Nat} {e e1 e2 e3:Ev} {a b:E} {x y z:PV}
theorem xB {op:Bop} (h1:evE C n e a = some (x,e1)) (h2:evE C n e1 b = some (y,e2)) (h3:binop op x y = some z):evE C (n + 1) e (.bin op a b) = some (z,e2):=ob h1 (ob h2 (ob h3 rfl))
theorem xC {op:Cop} {c:Bool} (h1:evE C n e a = some (x,e1)) (h2:evE C n e1 b = some (y,e2)) (h3:cmpop op x y = some c):evE C (n + 1) e (.cmp op a b) = some (.bool c,e2):=ob h1 (ob h2 (ob h3 rfl))
theorem xV {i:Nat} (h:getS e i = some (.val x)):evE C (n + 1) e (.var i) = some (x,e):=(xVf h).trans (congrArg (fun q => some (x,q)) (setS_self h))
theorem xVi {i:Nat} {s:Slot} (h:getS e i = some s) (h1:evE C n e b = some (y,e1)) (h2:idxop (froz s) y = some z):evE C (n + 1) e (.idxv i b) = some (z,e1):=ob h (ob h1 (ob h2 rfl))
theorem xJ {l:List E} {vs:List PV} (h1:evL C n e l = some (vs,e1)):evE C (n + 1) e (.lst l) = some (.list vs,e1):=ob h1 rfl
theorem xAL {i:Nat} {l:List E} {vs:List PV} (h1:evL C n e l = some (vs,e1)):exS C (n + 1) e (.asgL i l) = some (.next,setS e1 i (.ownL vs)):=ob h1 rfl
theorem exS_unp2 {i j:Nat} {u v:PV} (h:evE C n e a = some (.tup [u,v],e1)):exS C (n + 1) e (.unp [i,j] a) = some (.next,setS (setS e1 i (.val u)) j (.val v)):=ob h rfl
theorem xX (h1:evE C n e a = some (x,e1)) (h2:evE C n e1 b = some (y,e2)) (h3:idxop x y = some z):evE C (n + 1) e (.idx a b) = some (z,e2):=ob h1 (ob h2 (ob h3 rfl))
theorem xS {lo hi:Option E} {l h:Option PV} (h1:evE C n e a = some (x,e1)) (h2:evO C n e1 lo = some (l,e2)) (h3:evO C n e2 hi = some (h,e3)) (h4:slcop x l h = some z):evE C (n + 1) e (.slc a lo hi) = some (z,e3):=ob h1 (ob h2 (ob h3 (ob h4 rfl)))
theorem xO (h:evE C n e a = some (x,e1)):evO C (n + 1) e (some a) = some (some x,e1):=ob h rfl
theorem xL {l:List E} {vs:List PV} (h1:evE C n e a = some (x,e1)) (h2:evL C n e1 l = some (vs,e2)):evL C (n + 1) e (a :: l) = some (x :: vs,e2):=ob h1 (ob h2 rfl)
theorem xF {f:Bi} {l:List E} {vs:List PV} (h1:evL C n e l = some (vs,e1)) (h2:biop f vs = some z):evE C (n + 1) e (.bi f l) = some (z,e1):=ob h1 (ob h2 rfl)
theorem xU {l:List E} {vs:List PV} (h1:evL C n e l = some (vs,e1)):evE C (n + 1) e (.tup l) = some (.tup vs,e1):=ob h1 rfl
theorem xT {op:Cop} {c:Bool} (h1:evE C n e a = some (x,e1)) (h2:evE C n e1 b = some (y,e2)) (h3:cmpop op x y = some c):evT C (n + 1) e (.cmp op a b) = some (c,e2):=ob h1 (ob h2 (ob h3 rfl))
theorem xG {t:T} {l:List T} {u:Bool} {r:Option (Bool × Ev)} (h1:evT C n e t = some (u,e1)) (h2:evTs C n e1 u l = r):evTs C (n + 1) e u (t :: l) = r:=ob h1 ((if_pos (beq_self_eq_true u)).trans h2)
theorem xG0 {t:T} {l:List T} {u c:Bool} (h1:evT C n e t = some (c,e1)) (h2:c ≠ u):evTs C (n + 1) e u (t :: l) = some (c,e1):=ob h1 (if_neg fun q => h2 (eq_of_beq q))
theorem xI {t:T} {p q:List S} {c:Bool} {r:Option (Fl × Ev)} (h1:evT C n e t = some (c,e1)) (h2:exB C n e1 (if c then p else q) = r):exS C (n + 1) e (.ifs t p q) = r:=ob h1 (by cases c <;> exact h2)
theorem xI1 {t:T} {p q:List S} {r:Option (Fl × Ev)} (h1:evT C n e t = some (true,e1)) (h2:exB C n e1 p = r):exS C (n + 1) e (.ifs t p q) = r:=ob h1 h2
theorem xI0 {t:T} {p q:List S} {r:Option (Fl × Ev)} (h1:evT C n e t = some (false,e1)) (h2:exB C n e1 q = r):exS C (n + 1) e (.ifs t p q) = r:=ob h1 h2
theorem xA {i:Nat} (h:evE C n e a = some (x,e1)):exS C (n + 1) e (.asg i a) = some (.next,setS e1 i (.val x)):=ob h rfl
theorem xR (h:evE C n e a = some (x,e1)):exS C (n + 1) e (.ret a) = some (.ret x,e1):=ob h rfl
theorem xP {i:Nat} {l:List PV} (h:evE C n e a = some (x,e1)) (h2:getS e1 i = some (.ownL l)) (h3:lim l.length = true):exS C (n + 1) e (.app i a) = some (.next,setS e1 i (.ownL (l ++ [x]))):=ob h (ob h2 (if_pos h3))
theorem xN {s:S} {r:List S} {q:Option (Fl × Ev)} (h:exS C n e s = some (.next,e1)) (h2:exB C n e1 r = q):exB C (n + 1) e (s :: r) = q:=by
 show (match exS C n e s with | some (.next,e) => exB C n e r | r => r) = q
 rw [h];exact h2
theorem xM {s:S} {r:List S} {v:PV} (h:exS C n e s = some (.ret v,e1)):exB C (n + 1) e (s :: r) = some (.ret v,e1):=by
 show (match exS C n e s with | some (.next,e) => exB C n e r | r => r) = _
 rw [h]
theorem xE {s:S} {r:List S} {q:Fl} (h:exS C n e s = some (.next,e1)) (h2:∃ e',exB C n e1 r = some (q,e')):∃ e',exB C (n + 1) e (s :: r) = some (q,e'):=h2.elim fun e' h2 => ⟨e',xN h h2⟩
theorem xW1 {t:T} {b:List S} {k:Nat} {q:Option (Fl × Ev)} (h:evT C n e t = some (true,e1)) (h2:exB C n e1 b = some (.next,e2)) (h3:exW C n e2 t b k = q):exW C (n + 1) e t b k = q:=by
 rw [xW h,if_pos rfl,h2];exact h3
theorem xW0 {t:T} {b:List S} {k:Nat} (h:evT C n e t = some (false,e1)):exW C (n + 1) e t b k = some (.next,e1):=xW h
theorem xK1 {f:Nat} (h1:evE C (n + 1) e a = some (x,e1)) (h2:C f [.val x] = some z):evE C (n + 3) e (.call f [a] none) = some (z,e1):=ob (xL h1 rfl) (ob h2 rfl)
theorem xK2 {f:Nat} (h1:evE C (n + 2) e a = some (x,e1)) (h:evE C (n + 1) e1 b = some (y,e2)) (h2:C f [.val x,.val y] = some z):evE C (n + 4) e (.call f [a,b] none) = some (z,e2):=ob (xL h1 (xL h rfl)) (ob h2 rfl)
theorem xK3 {f:Nat} {c:E} {w:PV} (h1:evE C (n + 3) e a = some (x,e1)) (h:evE C (n + 2) e1 b = some (y,e2)) (h':evE C (n + 1) e2 c = some (w,e3)) (h2:C f [.val x,.val y,.val w] = some z):evE C (n + 5) e (.call f [a,b,c] none) = some (z,e3):=ob (xL h1 (xL h (xL h' rfl))) (ob h2 rfl)
theorem xTv {c:Bool} (h:evE C n e a = some (.bool c,e1)):evT C (n + 1) e (.val a) = some (c,e1):=ob h rfl
theorem xAnd {l:List T} {r:Option (Bool × Ev)} (h:evTs C n e true l = r):evT C (n + 1) e (.and l) = r:=h
theorem xNot {t:T} {c:Bool} (h:evT C n e t = some (c,e1)):evT C (n + 1) e (.not t) = some (!c,e1):=ob h rfl
theorem xAu {i:Nat} {op:Bop} {p q:Int} (h0:getS e i = some (.val (.int p))) (h1:evE C n e a = some (.int q,e1)) (h2:binop op (.int p) (.int q) = some z):exS C (n + 1) e (.aug i op a) = some (.next,setS e1 i (.val z)):=ob h0 (ob h1 (ob h2 rfl))
end
theorem sm1 {p:Int} (hp:small p = true):binop .add (.int p) (.int 1) = some (.int (p + 1)):=if_pos (by rw [hp];rfl)
theorem sm1' {p:Int} (hp:small p = true):binop .sub (.int p) (.int 1) = some (.int (p - 1)):=if_pos (by rw [hp];rfl)
theorem sT {p:Prop} [Decidable p] (h:p):some (decide p) = some true:=congrArg some (decide_eq_true h)
theorem sF {p:Prop} [Decidable p] (h:¬ p):some (decide p) = some false:=congrArg some (decide_eq_false h)
theorem nT {p:Prop} [Decidable p] (h:¬ p):some (!decide p) = some true:=congrArg (fun b => some (!b)) (decide_eq_false h)
theorem nF {p:Prop} [Decidable p] (h:p):some (!decide p) = some false:=congrArg (fun b => some (!b)) (decide_eq_true h)
noncomputable def escSt:Bool → List Nat → Bool
 | b,[] => b
 | true,_ :: r => escSt false r
 | false,c :: r => escSt (decide (c = 92)) r
theorem esc_app:∀ (a b:List Nat) (pos:Int) (e:Bool),escSt e a = false → esc pos e (a ++ b) = esc pos e a ++ esc (pos + a.length) false b
 | [],b,pos,e,h => by
  obtain rfl:e = false:=h
  show esc pos false b = esc (pos + 0) false b
  rw [Int.add_zero]
 | c :: r,b,pos,true,h => by
  have ih:=esc_app r b (pos + 1) false h
  show PV.tup [.int pos,.str [92,c]] :: esc (pos + 1) false (r ++ b) = PV.tup [.int pos,.str [92,c]] :: esc (pos + 1) false r ++ _
  rw [ih,List.cons_append,List.length_cons]
  congr 3
  lia
 | c :: r,b,pos,false,h => by
  by_cases hc:c = 92
  ·subst hc
   have ih:=esc_app r b (pos + 1) true h
   show esc (pos + 1) true (r ++ b) = esc (pos + 1) true r ++ _
   rw [ih,List.length_cons]
   congr 2
   lia
  ·have hs:escSt false r = false:=by
    have:escSt (decide (c = 92)) r = false:=h
    rwa [decide_eq_false hc] at this
   have ih:=esc_app r b (pos + 1) false hs
   show (if decide (c = 92) = true then _ else PV.tup [.int pos,.str [c]] :: esc (pos + 1) false (r ++ b)) = (if decide (c = 92) = true then _ else PV.tup [.int pos,.str [c]] :: esc (pos + 1) false r) ++ _
   rw [if_neg (by simpa using hc),if_neg (by simpa using hc),ih,List.cons_append,List.length_cons]
   congr 3
   lia
set_option genCtorIdx false in
inductive Pc
 | ch (sym:Nat) (w:List Nat) | sk (s:List Nat)
noncomputable def Pc.ctorIdx (x:Pc):Nat:=Pc.casesOn x (fun _ _ => 0) (fun _ => 1)
noncomputable def Pc.str:Pc → List Nat
 | .ch _ w => w
 | .sk s => s
noncomputable def flat:List Pc → List Nat
 | [] => []
 | p :: r => p.str ++ flat r
theorem flat_app:∀ a b:List Pc,flat (a ++ b) = flat a ++ flat b
 | [],_ => rfl
 | p :: r,b => by show p.str ++ flat (r ++ b) = (p.str ++ flat r) ++ flat b;rw [flat_app r b,List.append_assoc]
theorem escSt_app:∀ (a b:List Nat) (e:Bool),escSt e (a ++ b) = escSt (escSt e a) b
 | [],_,_ => rfl
 | _ :: r,b,true => escSt_app r b false
 | c :: r,b,false => escSt_app r b (decide (c = 92))
end
section
noncomputable def dep:Int → List (List Nat) → Option Int
 | d,[] => some d
 | d,u :: r => if u = [40] then dep (d + 1) r else if u = [41] then (if d - 1 < 0 then none else dep (d - 1) r) else dep d r
theorem dep_c {d:Int} {u:List Nat} {r:List (List Nat)}:dep d (u :: r) = if u = [40] then dep (d + 1) r else if u = [41] then (if d - 1 < 0 then none else dep (d - 1) r) else dep d r:=rfl
noncomputable def items:List (Int × List Nat) → List PV:=List.map fun q => .tup [.int q.1,.str q.2]
noncomputable def body2:List S:=match fn2.body with | [_,_,.forn _ _ b,_] => b | _ => []
noncomputable def loop2 (C:Calls) (n:Nat):PV → Ev → Option (Fl × Ev):=fun v e => (unpV v).bind fun l => (setMany e [2,3] l).bind fun e => exB C n e body2
theorem turn2 (C:Calls) (n:Nat) (s0 s2 s3:Option Slot) (d p:Int) (u:List Nat) (hd:small d = true) :
  loop2 C (n + 10) (.tup [.int p,.str u]) [s0,some (.val (.int d)),s2,s3] =
   if u = [40] then some (.next,[s0,some (.val (.int (d + 1))),some (.val (.int p)),some (.val (.str u))])
   else if u = [41] then (if d - 1 < 0 then some (.ret (.bool false),[s0,some (.val (.int (d - 1))),some (.val (.int p)),some (.val (.str u))]) else some (.next,[s0,some (.val (.int (d - 1))),some (.val (.int p)),some (.val (.str u))]))
   else some (.next,[s0,some (.val (.int d)),some (.val (.int p)),some (.val (.str u))]):=by
 show exB C (n + 10) [s0,some (.val (.int d)),some (.val (.int p)),some (.val (.str u))] body2 = _
 by_cases h1:u = [40]
 ·subst h1
  rw [if_pos rfl]
  exact xN (xI1 (xT rfl rfl rfl) (xN (xAu rfl rfl (sm1 hd)) rfl)) rfl
 ·rw [if_neg h1]
  by_cases h2:u = [41]
  ·subst h2
   rw [if_pos rfl]
   by_cases h3:d - 1 < 0
   ·rw [if_pos h3]
    exact xM (xI0 (xT rfl rfl (sF h1)) (xM (xI1 (xT rfl rfl rfl) (xN (xAu rfl rfl (sm1' hd)) (xM (xI1 (xT rfl rfl (sT h3)) (xM (xR rfl))))))))
   ·rw [if_neg h3]
    exact xN (xI0 (xT rfl rfl (sF h1)) (xN (xI1 (xT rfl rfl rfl) (xN (xAu rfl rfl (sm1' hd)) (xN (xI0 (xT rfl rfl (sF h3)) rfl) rfl))) rfl)) rfl
  ·rw [if_neg h2]
   exact xN (xI0 (xT rfl rfl (sF h1)) (xN (xI0 (xT rfl rfl (sF h2)) rfl) rfl)) rfl
theorem small_of {d:Int} {k:Nat} (h0:0 ≤ d) (h:d ≤ k) (hk:k < 1000000):small d = true:=by
 unfold small
 rw [Bool.and_eq_true,decide_eq_true_eq,decide_eq_true_eq]
 lia
theorem small_nat {d:Int} {k:Nat} (e:d = (k:Int)) (hk:k < 1000000):small d = true:=by subst e;exact small_of (k:=k) (Int.natCast_nonneg k) (Int.le_refl _) hk
theorem run2 (C:Calls) (n:Nat) (s0:Option Slot):∀ (us:List (Int × List Nat)) (d:Int) (s2 s3:Option Slot),0 ≤ d → d + us.length < 1000000 →
  (dep d (us.map (·.2)) = none ∧ ∃ e',loopF (loop2 C (n + 10)) (items us) [s0,some (.val (.int d)),s2,s3] = some (.ret (.bool false),e')) ∨
  ∃ d' s2' s3',dep d (us.map (·.2)) = some d' ∧ loopF (loop2 C (n + 10)) (items us) [s0,some (.val (.int d)),s2,s3] = some (.next,[s0,some (.val (.int d')),s2',s3'])
 | [],d,s2,s3,_,_ => .inr ⟨d,s2,s3,rfl,rfl⟩
 | (p,u) :: r,d,s2,s3,h0,hb => by
  have hb':d + (r.length + 1:Nat) < 1000000:=hb
  have hd:small d = true:=small_of (k:=d.toNat) h0 (by lia) (by lia)
  have ht:=turn2 C n s0 s2 s3 d p u hd
  show (dep d (u :: r.map (·.2)) = none ∧ ∃ e',loopF (loop2 C (n + 10)) (.tup [.int p,.str u] :: items r) _ = _) ∨ ∃ d' s2' s3',dep d (u :: r.map (·.2)) = _ ∧ loopF (loop2 C (n + 10)) (.tup [.int p,.str u] :: items r) _ = _
  rw [dep_c,loopF_c]
  rw [ht]
  by_cases h1:u = [40]
  ·rw [if_pos h1,if_pos h1]
   exact run2 C n s0 r (d + 1) _ _ (by lia) (by lia)
  ·rw [if_neg h1,if_neg h1]
   by_cases h2:u = [41]
   ·rw [if_pos h2,if_pos h2]
    by_cases h3:d - 1 < 0
    ·rw [if_pos h3,if_pos h3]
     exact .inl ⟨rfl,_,rfl⟩
    ·rw [if_neg h3,if_neg h3]
     exact run2 C n s0 r (d - 1) _ _ (by lia) (by lia)
   ·rw [if_neg h2,if_neg h2]
    exact run2 C n s0 r d _ _ h0 (by lia)
end
section
noncomputable def body1:List S:=match fn1.body with | [_,_,_,_,.forn _ _ b,_,_] => b | _ => []
noncomputable def loop1 (C:Calls) (n:Nat):PV → Ev → Option (Fl × Ev):=fun v e => (unpV v).bind fun l => (setMany e [4,5] l).bind fun e => exB C n e body1
theorem turn1_skip (C:Calls) (n:Nat) (s0 s1 s2 s3 s4 s5:Option Slot) (p:Int) (u:List Nat) (hu:u ≠ [34]) :
  loop1 C (n + 12) (.tup [.int p,.str u]) [s0,s1,s2,s3,s4,s5] = some (.next,[s0,s1,s2,s3,some (.val (.int p)),some (.val (.str u))]):=by
 show exB C (n + 12) [s0,s1,s2,s3,some (.val (.int p)),some (.val (.str u))] body1 = _
 exact xN (xI0 (xT rfl rfl (sF hu)) rfl) rfl
theorem turn1_open (C:Calls) (n:Nat) (s0 s1 s3 s4 s5:Option Slot) (p:Int) :
  loop1 C (n + 12) (.tup [.int p,.str [34]]) [s0,s1,some (.val .none),s3,s4,s5] = some (.next,[s0,s1,some (.val (.int p)),s3,some (.val (.int p)),some (.val (.str [34]))]):=by
 show exB C (n + 12) [s0,s1,some (.val .none),s3,some (.val (.int p)),some (.val (.str [34]))] body1 = _
 exact xN (xI1 (xT rfl rfl rfl) rfl) rfl
theorem turn1_same (C:Calls) (n:Nat) (s0 s3 s4 s5:Option Slot) (p o:Int) (hp:small p = true) :
  loop1 C (n + 12) (.tup [.int p,.str [34]]) [s0,some (.val (.int o)),some (.val (.int o)),s3,s4,s5] = some (.next,[s0,some (.val (.int (p + 1))),some (.val .none),s3,some (.val (.int p)),some (.val (.str [34]))]):=by
 show exB C (n + 12) [s0,some (.val (.int o)),some (.val (.int o)),s3,some (.val (.int p)),some (.val (.str [34]))] body1 = _
 exact xN (xI1 (xT rfl rfl rfl) (xN (xI0 (xT rfl rfl rfl) (xN (xI0 (xT rfl rfl (nF rfl)) rfl) (xN (xA (xB rfl rfl (sm1 hp))) rfl))) rfl)) rfl
theorem bnd_of {i:Int} (h0:0 ≤ i) (h:small i = true):bnd (.int i) = some i.toNat:=if_pos (by rw [decide_eq_true h0,h];rfl)
theorem slc_cut {a:List Nat} {st o:Int} (h0:0 ≤ st) (hst:small st = true) (h1:0 ≤ o) (ho:small o = true) (ha:lim a.length = true):slcop (.str a) (some (.int st)) (some (.int o)) = some (.str (cut a st.toNat o.toNat)) :=
 ob (bnd_of h0 hst) ((if_pos ha).trans (ob (bnd_of h1 ho) rfl))
theorem turn1_shut (C:Calls) (n:Nat) (a:List Nat) (l:List PV) (s4 s5:Option Slot) (p st o:Int) (hp:small p = true) (hst:small st = true) (ho:small o = true) (h0:0 ≤ st) (h1:0 ≤ o) (hne:st ≠ o) (ha:lim a.length = true) (hl:lim l.length = true) :
  loop1 C (n + 12) (.tup [.int p,.str [34]]) [some (.val (.str a)),some (.val (.int st)),some (.val (.int o)),some (.ownL l),s4,s5] =
   some (.next,[some (.val (.str a)),some (.val (.int (p + 1))),some (.val .none),some (.ownL (l ++ [.str (cut a st.toNat o.toNat)])),some (.val (.int p)),some (.val (.str [34]))]):=by
 show exB C (n + 12) [some (.val (.str a)),some (.val (.int st)),some (.val (.int o)),some (.ownL l),some (.val (.int p)),some (.val (.str [34]))] body1 = _
 exact xN (xI1 (xT rfl rfl rfl) (xN (xI0 (xT rfl rfl rfl) (xN (xI1 (xT rfl rfl (nT hne)) (xN (xP (xS rfl (xO rfl) (xO rfl) (slc_cut h0 hst h1 ho ha)) rfl hl) rfl)) (xN (xA (xB rfl rfl (sm1 hp))) rfl))) rfl)) rfl
end
section
noncomputable def posU:Int → List Nat → List (Int × List Nat)
 | _,[] => []
 | p,c :: r => (p,[c]) :: posU (p + 1) r
theorem esc_word:∀ (w:List Nat) (p:Int),(∀ c ∈ w,c ≠ 92) → esc p false w = items (posU p w) ∧ escSt false w = false
 | [],_,_ => ⟨rfl,rfl⟩
 | c :: r,p,h => by
  obtain ⟨h1,h2⟩:=esc_word r (p + 1) fun x hx => h x (.tail _ hx)
  have hc:=h c (.head _)
  refine ⟨?_,?_⟩
  ·show (if decide (c = 92) = true then _ else PV.tup [.int p,.str [c]] :: esc (p + 1) false r) = _
   rw [if_neg (by simpa using hc),h1];rfl
  ·show escSt (decide (c = 92)) r = false
   rw [decide_eq_false hc];exact h2
noncomputable def skOk (s:List Nat):Prop:=s = [34,40,34] ∨ s = [34,92,34,41,34] ∨ s = [92,40] ∨ s = [92,41] ∨ s = [92,92]
noncomputable def Pc.ok:Pc → Prop
 | .ch _ w => ∀ c ∈ w,c ≠ 92 ∧ c ≠ 34
 | .sk s => skOk s
noncomputable def skU (p:Int) (s:List Nat):List (Int × List Nat) :=
 if s = [34,40,34] then [(p,[34]),(p + 1,[40]),(p + 1 + 1,[34])]
 else if s = [34,92,34,41,34] then [(p,[34]),(p + 1 + 1,[92,34]),(p + 1 + 1 + 1,[41]),(p + 1 + 1 + 1 + 1,[34])]
 else [(p + 1,s)]
noncomputable def Pc.units (p:Int):Pc → List (Int × List Nat)
 | .ch _ w => posU p w
 | .sk s => skU p s
theorem esc_pc {x:Pc} (h:x.ok) (p:Int):esc p false x.str = items (x.units p) ∧ escSt false x.str = false:=by
 cases x with
 | ch s w => exact esc_word w p fun c hc => (h c hc).1
 | sk s => rcases (h:skOk s) with rfl | rfl | rfl | rfl | rfl <;> exact ⟨by rfl,by rfl⟩
noncomputable def unitsOf:Int → List Pc → List (Int × List Nat)
 | _,[] => []
 | p,x :: r => x.units p ++ unitsOf (p + x.str.length) r
theorem esc_flat:∀ (ps:List Pc) (p:Int),(∀ x ∈ ps,x.ok) → esc p false (flat ps) = items (unitsOf p ps) ∧ escSt false (flat ps) = false
 | [],_,_ => ⟨rfl,rfl⟩
 | x :: r,p,h => by
  obtain ⟨h1,h2⟩:=esc_pc (h x (.head _)) p
  obtain ⟨h3,h4⟩:=esc_flat r (p + x.str.length) fun y hy => h y (.tail _ hy)
  refine ⟨?_,?_⟩
  ·show esc p false (x.str ++ flat r) = items (x.units p ++ unitsOf (p + x.str.length) r)
   rw [esc_app _ _ _ _ h2,h1,h3]
   unfold items;rw [List.map_append]
  ·show escSt false (x.str ++ flat r) = false
   rw [escSt_app,h2];exact h4
end
section
noncomputable def quoted:Pc → Bool
 | .sk (34 :: _) => true
 | _ => false
noncomputable def kept (ps:List Pc):List Pc:=ps.filter fun p => !quoted p
theorem loopF_app {f:PV → Ev → Option (Fl × Ev)}:∀ (a b:List PV) (e e':Ev),loopF f a e = some (.next,e') → loopF f (a ++ b) e = loopF f b e'
 | [],_,_,_,h => by cases h;rfl
 | x :: r,b,e,e',h => by
  rw [List.cons_append,loopF_c]
  rw [loopF_c] at h
  cases hf:f x e with
  | none => rw [hf] at h;exact (nS h).elim
  | some q =>
   obtain ⟨fl,e1⟩:=q
   rw [hf] at h
   cases fl with
   | next => exact loopF_app r b e1 e' h
   | ret v => cases h
theorem loop1_plain (C:Calls) (n:Nat):∀ (w:List Nat) (p:Int) (s0 s1 s2 s3 s4 s5:Option Slot),(∀ c ∈ w,c ≠ 34) → ∃ s4' s5',loopF (loop1 C (n + 12)) (items (posU p w)) [s0,s1,s2,s3,s4,s5] = some (.next,[s0,s1,s2,s3,s4',s5'])
 | [],_,_,_,_,_,s4,s5,_ => ⟨s4,s5,rfl⟩
 | c :: r,p,s0,s1,s2,s3,s4,s5,h => by
  have hc:([c]:List Nat) ≠ [34]:=fun q => h c (.head _) (by injection q)
  show ∃ s4' s5',loopF (loop1 C (n + 12)) (.tup [.int p,.str [c]] :: items (posU (p + 1) r)) _ = _
  rw [loopF_c]
  rw [turn1_skip C n s0 s1 s2 s3 s4 s5 p [c] hc]
  exact loop1_plain C n r (p + 1) s0 s1 s2 s3 _ _ fun x hx => h x (.tail _ hx)
end
section
theorem joinS_c {x:List Nat} {r:List PV}:joinS (.str x :: r) = (joinS r).map (x ++ ·):=rfl
theorem joinS_snoc:∀ (l:List PV) (J x:List Nat),joinS l = some J → joinS (l ++ [.str x]) = some (J ++ x)
 | [],J,x,h => by cases h;show some (x ++ []) = some x;rw [List.append_nil]
 | v :: r,J,x,h => by
  cases v with
  | str y =>
   rw [joinS_c] at h
   cases hr:joinS r with
   | none => rw [hr] at h;exact (nS h).elim
   | some K =>
    rw [hr] at h
    cases h
    show (joinS (r ++ [.str x])).map (y ++ ·) = _
    rw [joinS_snoc r K x hr]
    simp
  | _ => exact (nS h).elim
theorem cut_pre {A B:List Nat} {st:Nat}:cut (A ++ B) st A.length = A.drop st:=by
 unfold cut;rw [List.take_left]
end
section
theorem loop1_quoted (C:Calls) (n:Nat) (a s:List Nat) (l:List PV) (s4 s5:Option Slot) (st p:Nat) (hs:s = [34,40,34] ∨ s = [34,92,34,41,34]) (hst:st ≤ p) (hp:p < 100000) (ha:lim a.length = true) (hl:lim l.length = true) :
  ∃ s4' s5',loopF (loop1 C (n + 12)) (items (skU p s)) [some (.val (.str a)),some (.val (.int st)),some (.val .none),some (.ownL l),s4,s5] =
   some (.next,[some (.val (.str a)),some (.val (.int ((p + s.length:Nat):Int))),some (.val .none),some (.ownL (if st = p then l else l ++ [.str (cut a st p)])),s4',s5']):=by
 have sm:∀ k:Nat,k < 200000 → small (k:Int) = true:=fun k hk => small_nat (k:=k) (by first | rfl | lia) (by lia)
 have fin:∀ (q:Int),small q = true → ∀ (u4 u5:Option Slot),loop1 C (n + 12) (.tup [.int q,.str [34]]) [some (.val (.str a)),some (.val (.int st)),some (.val (.int p)),some (.ownL l),u4,u5] =
   some (.next,[some (.val (.str a)),some (.val (.int (q + 1))),some (.val .none),some (.ownL (if st = p then l else l ++ [.str (cut a st p)])),some (.val (.int q)),some (.val (.str [34]))]):=by
  intro q hq u4 u5
  by_cases h:st = p
  ·subst h
   rw [if_pos rfl]
   exact turn1_same C n _ _ u4 u5 q st hq
  ·rw [if_neg h]
   have:=turn1_shut C n a l u4 u5 q st p hq (sm st (by lia)) (sm p (by lia)) (by lia) (by lia) (by lia) ha hl
   simpa using this
 rcases hs with rfl | rfl
 ·refine ⟨some (.val (.int (p + 1 + 1))),some (.val (.str [34])),?_⟩
  show loopF (loop1 C (n + 12)) [.tup [.int p,.str [34]],.tup [.int (p + 1),.str [40]],.tup [.int (p + 1 + 1),.str [34]]] _ = _
  rw [loopF_c,turn1_open];dsimp only
  rw [loopF_c,turn1_skip _ _ _ _ _ _ _ _ _ _ (by decide)];dsimp only
  rw [loopF_c,fin _ (by have:=sm (p + 2) (by lia);rwa [show ((p + 2:Nat):Int) = (p:Int) + 1 + 1 by lia] at this)]
  rfl
 ·refine ⟨some (.val (.int (p + 1 + 1 + 1 + 1))),some (.val (.str [34])),?_⟩
  show loopF (loop1 C (n + 12)) [.tup [.int p,.str [34]],.tup [.int (p + 1 + 1),.str [92,34]],.tup [.int (p + 1 + 1 + 1),.str [41]],.tup [.int (p + 1 + 1 + 1 + 1),.str [34]]] _ = _
  rw [loopF_c,turn1_open];dsimp only
  rw [loopF_c,turn1_skip _ _ _ _ _ _ _ _ _ _ (by decide)];dsimp only
  rw [loopF_c,turn1_skip _ _ _ _ _ _ _ _ _ _ (by decide)];dsimp only
  rw [loopF_c,fin _ (by have:=sm (p + 4) (by lia);rwa [show ((p + 4:Nat):Int) = (p:Int) + 1 + 1 + 1 + 1 by lia] at this)]
  rfl
end
section
theorem kept_app (a b:List Pc):kept (a ++ b) = kept a ++ kept b:=by unfold kept;exact List.filter_append ..
theorem flat_one (x:Pc):flat [x] = x.str:=by show x.str ++ [] = _;rw [List.append_nil]
theorem loop1_pass (C:Calls) (n:Nat) {x:Pc} (hx:x.ok) (hq:quoted x = false) (p:Int) (s0 s1 s2 s3 s4 s5:Option Slot):∃ s4' s5',loopF (loop1 C (n + 12)) (items (x.units p)) [s0,s1,s2,s3,s4,s5] = some (.next,[s0,s1,s2,s3,s4',s5']):=by
 cases x with
 | ch s w => exact loop1_plain C n w p s0 s1 s2 s3 s4 s5 fun c hc => (hx c hc).2
 | sk s =>
  rcases (hx:skOk s) with rfl | rfl | rfl | rfl | rfl
  ·cases hq
  ·cases hq
  ·refine ⟨some (.val (.int (p + 1))),some (.val (.str [92,40])),?_⟩
   show loopF (loop1 C (n + 12)) [.tup [.int (p + 1),.str [92,40]]] _ = _
   unfold loopF;rw [turn1_skip _ _ _ _ _ _ _ _ _ _ (by decide)]
   rfl
  ·refine ⟨some (.val (.int (p + 1))),some (.val (.str [92,41])),?_⟩
   show loopF (loop1 C (n + 12)) [.tup [.int (p + 1),.str [92,41]]] _ = _
   unfold loopF;rw [turn1_skip _ _ _ _ _ _ _ _ _ _ (by decide)]
   rfl
  ·refine ⟨some (.val (.int (p + 1))),some (.val (.str [92,92])),?_⟩
   show loopF (loop1 C (n + 12)) [.tup [.int (p + 1),.str [92,92]]] _ = _
   unfold loopF;rw [turn1_skip _ _ _ _ _ _ _ _ _ _ (by decide)]
   rfl
end
section
theorem run1 (C:Calls) (n:Nat) (a:List Nat) (ha:a.length < 90000):∀ (rest done:List Pc) (st:Nat) (l:List PV) (J:List Nat) (s4 s5:Option Slot),a = flat (done ++ rest) → (∀ x ∈ rest,x.ok) → st ≤ (flat done).length → joinS l = some J → J ++ (flat done).drop st = flat (kept done) → l.length ≤ done.length → (done ++ rest).length < 90000 →
  ∃ (st':Nat) (l':List PV) (J':List Nat) (s4' s5':Option Slot),loopF (loop1 C (n + 12)) (items (unitsOf (flat done).length rest)) [some (.val (.str a)),some (.val (.int st)),some (.val .none),some (.ownL l),s4,s5] = some (.next,[some (.val (.str a)),some (.val (.int st')),some (.val .none),some (.ownL l'),s4',s5']) ∧
   st' ≤ a.length ∧ joinS l' = some J' ∧ J' ++ a.drop st' = flat (kept (done ++ rest)) ∧ l'.length ≤ (done ++ rest).length
 | [],done,st,l,J,s4,s5,e,_,hst,hJ,hk,hl,_ => by
  rw [List.append_nil] at e ⊢
  subst e
  exact ⟨st,l,J,s4,s5,rfl,hst,hJ,hk,hl⟩
 | x :: rest,done,st,l,J,s4,s5,e,hok,hst,hJ,hk,hl,hlen => by
  have e2:a = flat ((done ++ [x]) ++ rest):=by rw [e];simp
  have hfl:flat (done ++ [x]) = flat done ++ x.str:=by rw [flat_app,flat_one]
  have hun:unitsOf ((flat done).length:Nat) (x :: rest) = x.units (flat done).length ++ unitsOf ((flat (done ++ [x])).length:Nat) rest:=by
   show _ ++ unitsOf ((flat done).length + x.str.length) rest = _
   rw [hfl,List.length_append];rfl
  have hit:items (unitsOf ((flat done).length:Nat) (x :: rest)) = items (x.units (flat done).length) ++ items (unitsOf ((flat (done ++ [x])).length:Nat) rest):=by rw [hun];unfold items;rw [List.map_append]
  rw [hit]
  have hlen':((done ++ [x]) ++ rest).length < 90000:=by simpa using hlen
  have hea:(done ++ x :: rest) = (done ++ [x]) ++ rest:=by simp
  have hok':∀ y ∈ rest,y.ok:=fun y hy => hok y (.tail _ hy)
  have hle:(flat (done ++ [x])).length ≤ a.length:=by rw [e2,flat_app (done ++ [x]) rest,List.length_append];lia
  cases hq:quoted x with
  | false =>
   obtain ⟨u4,u5,h1⟩:=loop1_pass C n (hok x (.head _)) hq (flat done).length (some (.val (.str a))) (some (.val (.int st))) (some (.val .none)) (some (.ownL l)) s4 s5
   rw [loopF_app _ _ _ _ h1,hea]
   refine run1 C n a ha rest (done ++ [x]) st l J u4 u5 e2 hok' (by rw [hfl,List.length_append];lia) hJ ?_ (by simp;lia) hlen'
   rw [hfl,List.drop_append_of_le_length hst,← List.append_assoc,hk,kept_app,flat_app]
   congr 1
   unfold kept;simp [hq,flat_one]
  | true =>
   cases x with
   | ch s w => exact (fT hq).elim
   | sk s =>
    have hs:s = [34,40,34] ∨ s = [34,92,34,41,34]:=by
     rcases (hok _ (.head _):skOk s) with h | h | h | h | h
     ·exact .inl h
     ·exact .inr h
     all_goals (subst h;cases hq)
    have hp:(flat done).length < 90000:=by rw [hfl,List.length_append] at hle;lia
    have hla:lim a.length = true:=Nat.blt_eq.mpr (by lia)
    have hll:lim l.length = true:=Nat.blt_eq.mpr (by simp at hlen;lia)
    obtain ⟨u4,u5,h1⟩:=loop1_quoted C n a s l s4 s5 st (flat done).length hs hst (by lia) hla hll
    rw [show items (Pc.units ((flat done).length:Nat) (Pc.sk s)) = items (skU ((flat done).length:Nat) s) from rfl,loopF_app _ _ _ _ h1,hea]
    have hkk:kept (done ++ [.sk s]) = kept done:=by unfold kept;simp [hq]
    have hcut:cut a st (flat done).length = (flat done).drop st:=by rw [e,flat_app];exact cut_pre
    have hlf:(flat (done ++ [.sk s])).length = (flat done).length + s.length:=by rw [hfl,List.length_append];rfl
    refine run1 C n a ha rest (done ++ [.sk s]) _ _ (if st = (flat done).length then J else J ++ (flat done).drop st) u4 u5 e2 hok' (by rw [hlf];exact Nat.le_refl _) ?_ ?_ ?_ hlen'
    ·split
     ·exact hJ
     ·rw [hcut];exact joinS_snoc _ _ _ hJ
    ·rw [← hlf,List.drop_length,List.append_nil,hkk,← hk]
     split
     ·rename_i h;rw [h,List.drop_length,List.append_nil]
     ·rfl
    ·split
     ·simp;lia
     ·simp;lia
end
section
theorem kept_all {ps:List Pc} (h:∀ x ∈ ps,quoted x = false):kept ps = ps:=by
 unfold kept;exact List.filter_eq_self.mpr fun x hx => by rw [h x hx];rfl
theorem quoted_34 {x:Pc} (h:quoted x = true):34 ∈ x.str:=by
 cases x with
 | ch s w => exact (fT h).elim
 | sk s =>
  cases s with
  | nil => exact (fT h).elim
  | cons c r =>
   by_cases hc:c = 34
   ·subst hc;exact .head _
   ·exfalso
    unfold quoted at h
    split at h
    ·rename_i e;cases e;exact hc rfl
    ·exact (fT h).elim
theorem flat_mem:∀ {ps:List Pc} {x:Pc} {c:Nat},x ∈ ps → c ∈ x.str → c ∈ flat ps
 | p :: r,x,c,h,hc => by
  show c ∈ p.str ++ flat r
  rcases List.mem_cons.mp h with rfl | h
  ·exact List.mem_append_left _ hc
  ·exact List.mem_append_right _ (flat_mem h hc)
end
section
theorem exB_next {C:Calls} {n:Nat} {e e':Ev} {s:S} {r:List S} (h:exS C n e s = some (.next,e')):exB C (n + 1) e (s :: r) = exB C n e' r:=by
 exact xN h rfl
theorem exB_ret {C:Calls} {n:Nat} {e e':Ev} {s:S} {r:List S} {v:PV} (h:exS C n e s = some (.ret v,e')):exB C (n + 1) e (s :: r) = some (.ret v,e'):=by
 exact xM h
end
section
theorem bnd_nat (k:Nat) (h:small (k:Int) = true):bnd (.int (k:Int)) = some k:=by
 show (if (decide ((0:Int) ≤ (k:Int)) && small (k:Int)) = true then some (k:Int).toNat else none) = _
 rw [if_pos (by rw [h,Bool.and_true];exact decide_eq_true (by lia))];rfl
theorem slc_from (l:List Nat) {j:Int} {k:Nat} (hb:bnd (.int j) = some k) (hl:lim l.length = true):slcop (.str l) (some (.int j)) none = some (.str (l.drop k)):=by
 show (bnd (.int j)).bind (fun a => if lim l.length = true then some (PV.str (l.drop a)) else none) = _
 rw [hb]
 show (if lim l.length = true then _ else _) = _
 rw [if_pos hl]
theorem slc_both (l:List Nat) {i j:Int} {a b:Nat} (hi:bnd (.int i) = some a) (hj:bnd (.int j) = some b) (hl:lim l.length = true):slcop (.str l) (some (.int i)) (some (.int j)) = some (.str (cut l a b)):=by
 show (bnd (.int i)).bind (fun a => if lim l.length = true then (bnd (.int j)).bind (fun b => some (PV.str (cut l a b))) else none) = _
 rw [hi,hj]
 show (if lim l.length = true then _ else _) = _
 rw [if_pos hl];rfl
theorem len_str (l:List Nat) (hl:lim l.length = true):biop .len [.str l] = some (.int l.length):=by
 show (if lim l.length = true then _ else _) = _
 rw [if_pos hl]
theorem len_list (l:List PV) (hl:lim l.length = true):biop .len [.list l] = some (.int l.length):=by
 show (if lim l.length = true then _ else _) = _
 rw [if_pos hl]
theorem join_list (l:List PV) (x:List Nat) (hx:joinS l = some x) (hl:lim l.length = true) (hk:lim x.length = true):biop .join [.list l] = some (.str x):=by
 show (joinS l).bind (fun x => if (lim l.length && lim x.length) = true then some (PV.str x) else none) = _
 rw [hx]
 show (if (lim l.length && lim x.length) = true then _ else _) = _
 rw [if_pos (by rw [hl,hk];rfl)]
end
section
noncomputable def out:Option (Fl × Ev) → Option PV
 | some (.ret v,_) => some v
 | some (.next,_) => some .none
 | none => none
theorem callN_eq (d f:Nat) (args:List Slot) (h:(args.length == (FT f).np) = true):callN FT (d + 1) f args = out (exB (callN FT d) 60 (args.map some ++ List.replicate ((FT f).nl - (FT f).np) none) (FT f).body):=by
 show (if _ then _ else none) = _
 rw [if_pos h];rfl
noncomputable def s1_0:S:=.ifs (.cmp .notIn (.str [34]) (.var 0)) [(.ret (.var 0))] []
noncomputable def s1_4:S:=.forn [4,5] (.gen (.var 0)) body1
noncomputable def s1_5:S:=.ifs (.cmp .lt (.var 1) (.bi .len [(.var 0)])) [(.app 3 (.slc (.var 0) (some (.var 1)) none))] []
theorem fn1_body:fn1.body = [s1_0,.asg 1 (.int 0),.asg 2 .none,.asgL 3 [],s1_4,s1_5,.ret (.bi .join [(.var 3)])]:=rfl
theorem r1_0 (C:Calls) (n:Nat) (a:List Nat) (h34:34 ∈ a) (e:Ev):exS C (n + 6) (some (.val (.str a)) :: e) s1_0 = some (.next,some (.val (.str a)) :: e):=by
 exact xI0 (xT rfl rfl (congrArg (fun b => some (!b)) (List.contains_iff_mem.mpr h34))) rfl
theorem r1_0' (C:Calls) (n:Nat) (a:List Nat) (h34:¬ 34 ∈ a) (e:Ev):exS C (n + 6) (some (.val (.str a)) :: e) s1_0 = some (.ret (.str a),some (.val (.str a)) :: e):=by
 exact xI1 (xT rfl rfl (congrArg (fun b => some (!b)) (Bool.eq_false_iff.mpr fun q => h34 (List.contains_iff_mem.mp q)))) rfl
theorem r1_4 (C:Calls) (n:Nat) (a:List Nat) (ha:lim a.length = true) (e:Ev):exS C (n + 15) (some (.val (.str a)) :: e) s1_4 = loopF (loop1 C (n + 14)) (esc 0 false a) (some (.val (.str a)) :: e):=by
 show (evI C (n + 14) _ (.gen (.var 0))).bind _ = _
 show ((if lim a.length = true then some (esc 0 false a,_) else none):Option (List PV × Ev)).bind _ = _
 rw [if_pos ha]
 rfl
end
section
theorem r1_5 (C:Calls) (n:Nat) (a:List Nat) (ha:lim a.length = true) (st:Int) {k:Nat} (hst:bnd (.int st) = some k) (l:List PV) (hl:lim l.length = true) (s2 s4 s5:Option Slot) :
  exS C (n + 10) [some (.val (.str a)),some (.val (.int st)),s2,some (.ownL l),s4,s5] s1_5 = some (.next,[some (.val (.str a)),some (.val (.int st)),s2,some (.ownL (if st < a.length then l ++ [.str (a.drop k)] else l)),s4,s5]):=by
 by_cases h:st < a.length
 ·rw [if_pos h]
  exact xI1 (xT rfl (xF (xL rfl rfl) (len_str _ ha)) (sT h)) (xN (xP (xS rfl (xO rfl) rfl (slc_from _ hst ha)) rfl hl) rfl)
 ·rw [if_neg h]
  exact xI0 (xT rfl (xF (xL rfl rfl) (len_str _ ha)) (sF h)) rfl
theorem r1_6 (C:Calls) (n:Nat) (s0 s1 s2 s4 s5:Option Slot) (l:List PV) (x:List Nat) (hl:lim l.length = true) (hx:joinS l = some x) (hk:lim x.length = true) :
  exS C (n + 5) [s0,s1,s2,some (.ownL l),s4,s5] (.ret (.bi .join [(.var 3)])) = some (.ret (.str x),[s0,s1,s2,some (.val (.list l)),s4,s5]):=by
 exact xR (xF (xL (xVf rfl) rfl) (join_list _ _ hx hl hk))
theorem lim_of {n:Nat} (h:n < 100000):lim n = true:=Nat.blt_eq.mpr h
theorem kept_le:∀ ps:List Pc,(flat (kept ps)).length ≤ (flat ps).length
 | [] => Nat.le_refl _
 | p :: r => by
  have ih:=kept_le r
  unfold kept at ih ⊢
  rw [List.filter_cons]
  show _ ≤ (p.str ++ flat r).length
  split
  ·show (p.str ++ flat _).length ≤ _
   rw [List.length_append,List.length_append];lia
  ·rw [List.length_append];lia
theorem strip_run {ps:List Pc} (d:Nat) (hok:∀ x ∈ ps,x.ok) (ha:(flat ps).length < 90000) (hp:ps.length < 90000):callN FT (d + 1) 1 [.val (.str (flat ps))] = some (.str (flat (kept ps))):=by
 rw [callN_eq d 1 _ rfl]
 show out (exB (callN FT d) 60 [some (.val (.str (flat ps))),none,none,none,none,none] fn1.body) = _
 rw [fn1_body]
 have hl:lim (flat ps).length = true:=lim_of (by lia)
 by_cases h34:34 ∈ flat ps
 ·obtain ⟨st,l,J,u4,u5,h1,h2,h3,h4,h5⟩:=run1 (callN FT d) 43 (flat ps) ha ps [] 0 [] [] none none rfl hok (Nat.zero_le _) rfl rfl (Nat.le_refl _) hp
  have hi:esc 0 false (flat ps) = items (unitsOf (flat ([]:List Pc)).length ps):=(esc_flat ps 0 hok).1
  have hll:lim l.length = true:=lim_of (by simp at h5;lia)
  have hsm:small (st:Int) = true:=small_nat (k:=st) (by first | rfl | lia) (by lia)
  have h4:J ++ (flat ps).drop st = flat (kept ps):=h4
  have hkl:=kept_le ps
  refine (congrArg out (exB_next (r1_0 (callN FT d) 53 (flat ps) h34 _))).trans ?_
  rw [exB_next (e':=[some (.val (.str (flat ps))),some (.val (.int 0)),none,none,none,none]) rfl,exB_next (e':=[some (.val (.str (flat ps))),some (.val (.int 0)),some (.val .none),none,none,none]) rfl,exB_next (e':=[some (.val (.str (flat ps))),some (.val (.int 0)),some (.val .none),some (.ownL []),none,none]) rfl]
  have b4:=r1_4 (callN FT d) 40 (flat ps) hl [some (.val (.int 0)),some (.val .none),some (.ownL []),none,none]
  rw [hi] at b4
  refine (congrArg out (exB_next (b4.trans h1))).trans ?_
  refine (congrArg out (exB_next (r1_5 (callN FT d) 44 (flat ps) hl st (bnd_nat st hsm) l hll _ _ _))).trans ?_
  by_cases hlt:(st:Int) < (flat ps).length
  ·rw [if_pos hlt]
   have hj:=joinS_snoc l J ((flat ps).drop st) h3
   rw [h4] at hj
   rw [exB_ret (r1_6 (callN FT d) 48 _ _ _ _ _ _ _ (lim_of (by simp at h5 ⊢;lia)) hj (lim_of (by lia)))]
   rfl
  ·rw [if_neg hlt]
   have hd:(flat ps).drop st = []:=List.drop_eq_nil_of_le (by lia)
   rw [hd,List.append_nil] at h4
   rw [h4] at h3
   rw [exB_ret (r1_6 (callN FT d) 48 _ _ _ _ _ _ _ hll h3 (lim_of (by lia)))]
   rfl
 ·have hk:kept ps = ps:=kept_all fun x hx => by
   cases h:quoted x with
   | false => rfl
   | true => exact absurd (flat_mem hx (quoted_34 h)) h34
  rw [hk,exB_ret (r1_0' (callN FT d) 53 (flat ps) h34 _)]
  rfl
end
section
noncomputable def walk:Nat → List Pc → Option Nat
 | d,[] => some d
 | d,.sk _ :: r => walk d r
 | d,.ch s _ :: r => if s = 7 then walk (d + 1) r else if s = 8 then (match d with | 0 => none | d + 1 => walk d r) else walk d r
theorem walk_ch (d s:Nat) (w:List Nat) (r:List Pc):walk d (.ch s w :: r) = if s = 7 then walk (d + 1) r else if s = 8 then (match d with | 0 => none | d + 1 => walk d r) else walk d r:=by cases d <;> rfl
theorem walk_sk (d:Nat) (s:List Nat) (r:List Pc):walk d (.sk s :: r) = walk d r:=by cases d <;> rfl
noncomputable def Pc.fit:Pc → Prop
 | .ch s w => (s = 7 ∧ w = [40]) ∨ (s = 8 ∧ w = [41]) ∨ (s ≠ 7 ∧ s ≠ 8 ∧ ∀ c ∈ w,c ≠ 92 ∧ c ≠ 34 ∧ c ≠ 40 ∧ c ≠ 41)
 | .sk s => skOk s
theorem Pc.fit.ok {x:Pc} (h:x.fit):x.ok:=by
 cases x with
 | sk s => exact h
 | ch s w =>
  rcases h with ⟨_,rfl⟩ | ⟨_,rfl⟩ | ⟨_,_,h⟩
  ·intro c hc;simp at hc;subst hc;decide
  ·intro c hc;simp at hc;subst hc;decide
  ·exact fun c hc => ⟨(h c hc).1,(h c hc).2.1⟩
theorem dep_app:∀ (a b:List (List Nat)) (d:Int),dep d (a ++ b) = (dep d a).bind fun d => dep d b
 | [],b,d => rfl
 | u :: r,b,d => by
  rw [List.cons_append]
  rw [dep_c,dep_c]
  split
  ·exact dep_app r b _
  ·split
   ·split
    ·rfl
    ·exact dep_app r b _
   ·exact dep_app r b _
theorem dep_plain:∀ (w:List Nat) (p d:Int),(∀ c ∈ w,c ≠ 40 ∧ c ≠ 41) → dep d ((posU p w).map (·.2)) = some d
 | [],_,_,_ => rfl
 | c :: r,p,d,h => by
  have hc:=h c (.head _)
  show dep d ([c] :: (posU (p + 1) r).map (·.2)) = _
  rw [dep_c]
  rw [if_neg (fun q => hc.1 (by injection q)),if_neg (fun q => hc.2 (by injection q))]
  exact dep_plain r (p + 1) d fun x hx => h x (.tail _ hx)
theorem dep_walk:∀ (ps:List Pc) (p:Int) (d:Nat),(∀ x ∈ ps,x.fit) → (∀ x ∈ ps,quoted x = false) → dep (d:Int) ((unitsOf p ps).map (·.2)) = (walk d ps).map (fun k:Nat => (k:Int))
 | [],p,d,_,_ => rfl
 | x :: r,p,d,h,hq => by
  have ih:=fun p d => dep_walk r p d (fun y hy => h y (.tail _ hy)) (fun y hy => hq y (.tail _ hy))
  show dep (d:Int) ((x.units p ++ unitsOf _ r).map (·.2)) = _
  rw [List.map_append,dep_app]
  have hx:=h x (.head _)
  have hxq:=hq x (.head _)
  cases x with
  | sk s =>
   have e:dep (d:Int) ((Pc.units p (.sk s)).map (·.2)) = some (d:Int):=by
    rcases (hx:skOk s) with rfl | rfl | rfl | rfl | rfl
    ·cases hxq
    ·cases hxq
    all_goals rfl
   rw [e]
   exact ih _ d
  | ch s w =>
   rcases hx with ⟨rfl,rfl⟩ | ⟨rfl,rfl⟩ | ⟨h7,h8,hw⟩
   ·have e:dep (d:Int) ((Pc.units p (.ch 7 [40])).map (·.2)) = some ((d + 1:Nat):Int):=by
     show dep (d:Int) [[40]] = _
     rw [dep_c,if_pos rfl];rfl
    rw [e]
    rw [walk_ch,if_pos rfl]
    exact ih _ (d + 1)
   ·cases d with
    | zero => rfl
    | succ d =>
     have e:dep ((d + 1:Nat):Int) ((Pc.units p (.ch 8 [41])).map (·.2)) = some (d:Int):=by
      show dep _ [[41]] = _
      rw [dep_c,if_neg (by decide),if_pos rfl,if_neg (by lia)]
      show some (((d + 1:Nat):Int) - 1) = some (d:Int)
      congr 1;lia
     rw [e]
     rw [walk_ch,if_neg (by decide),if_pos rfl]
     exact ih _ d
   ·have e:dep (d:Int) ((Pc.units p (.ch s w)).map (·.2)) = some (d:Int):=dep_plain w p d fun c hc => ⟨(hw c hc).2.2.1,(hw c hc).2.2.2⟩
    rw [e]
    rw [walk_ch,if_neg h7,if_neg h8]
    exact ih _ d
theorem walk_kept:∀ (ps:List Pc) (d:Nat),walk d (kept ps) = walk d ps
 | [],d => rfl
 | .sk s :: r,d => by
  unfold kept
  rw [List.filter_cons]
  split
  ·exact walk_kept r d
  ·exact walk_kept r d
 | .ch s w :: r,d => by
  show walk d (.ch s w :: kept r) = _
  rw [walk_ch,walk_ch,walk_kept r d,walk_kept r (d + 1)]
  cases d with
  | zero => rfl
  | succ d => rw [show (match d + 1 with | 0 => none | d + 1 => walk d (kept r)) = walk d (kept r) from rfl,walk_kept r d]
theorem kept_mem {ps:List Pc} {x:Pc} (h:x ∈ kept ps):x ∈ ps ∧ quoted x = false:=by
 unfold kept at h
 have:=List.mem_filter.mp h
 exact ⟨this.1,by simpa using this.2⟩
theorem posU_len:∀ (w:List Nat) (p:Int),(posU p w).length = w.length
 | [],_ => rfl
 | _ :: r,p => by show (posU (p + 1) r).length + 1 = _;rw [posU_len r];rfl
theorem units_len {x:Pc} (h:x.ok) (p:Int):(x.units p).length ≤ x.str.length:=by
 cases x with
 | ch s w => exact Nat.le_of_eq (posU_len w p)
 | sk s => rcases (h:skOk s) with rfl | rfl | rfl | rfl | rfl <;> (show (skU p _).length ≤ _;first | exact Nat.le_refl 3 | exact Nat.le_succ 4 | exact Nat.le_succ 1)
theorem unitsOf_len:∀ (ps:List Pc) (p:Int),(∀ x ∈ ps,x.ok) → (unitsOf p ps).length ≤ (flat ps).length
 | [],_,_ => Nat.le_refl _
 | x :: r,p,h => by
  have h1:=units_len (h x (.head _)) p
  have h2:=unitsOf_len r (p + x.str.length) fun y hy => h y (.tail _ hy)
  show (x.units p ++ unitsOf _ r).length ≤ (x.str ++ flat r).length
  rw [List.length_append,List.length_append];lia
noncomputable def s2_2:S:=.forn [2,3] (.gen (.var 0)) body2
theorem fn2_body:fn2.body = [.asg 0 (.call 1 [(.var 0)] none),.asg 1 (.int 0),s2_2,.ret (.cmp .eq (.var 1) (.int 0))]:=rfl
theorem r2_0 (C:Calls) (n:Nat) (a b:List Nat) (e:Ev) (h:C 1 [.val (.str a)] = some (.str b)):exS C (n + 5) (some (.val (.str a)) :: e) (.asg 0 (.call 1 [(.var 0)] none)) = some (.next,some (.val (.str b)) :: e):=by
 have h2:evE C (n + 4) (some (.val (.str a)) :: e) (.call 1 [(.var 0)] none) = some (.str b,some (.val (.str a)) :: e):=xK1 (x:=.str a) rfl h
 exact xA h2
theorem r2_2 (C:Calls) (n:Nat) (a:List Nat) (ha:lim a.length = true) (e:Ev):exS C (n + 15) (some (.val (.str a)) :: e) s2_2 = loopF (loop2 C (n + 14)) (esc 0 false a) (some (.val (.str a)) :: e):=by
 show (evI C (n + 14) _ (.gen (.var 0))).bind _ = _
 show ((if lim a.length = true then some (esc 0 false a,_) else none):Option (List PV × Ev)).bind _ = _
 rw [if_pos ha]
 rfl
theorem r2_3 (C:Calls) (n:Nat) (s0 s2 s3:Option Slot) (d:Int):exS C (n + 5) [s0,some (.val (.int d)),s2,s3] (.ret (.cmp .eq (.var 1) (.int 0))) = some (.ret (.bool (decide (d = 0))),[s0,some (.val (.int d)),s2,s3]):=by
 rfl
theorem check_run {ps:List Pc} (d:Nat) (hok:∀ x ∈ ps,x.fit) (ha:(flat ps).length < 90000) (hp:ps.length < 90000):callN FT (d + 2) 2 [.val (.str (flat ps))] = some (.bool (decide (walk 0 ps = some 0))):=by
 rw [callN_eq (d + 1) 2 _ rfl]
 show out (exB (callN FT (d + 1)) 60 [some (.val (.str (flat ps))),none,none,none] fn2.body) = _
 rw [fn2_body]
 have hs:=strip_run d (fun x hx => (hok x hx).ok) ha hp
 have hkl:=kept_le ps
 refine (congrArg out (exB_next (r2_0 (callN FT (d + 1)) 54 _ _ _ hs))).trans ?_
 rw [exB_next (e':=[some (.val (.str (flat (kept ps)))),some (.val (.int 0)),none,none]) rfl]
 have hfit:∀ x ∈ kept ps,x.fit:=fun x hx => hok x (kept_mem hx).1
 have hi:=(esc_flat (kept ps) 0 fun x hx => (hfit x hx).ok).1
 have b2:=r2_2 (callN FT (d + 1)) 42 (flat (kept ps)) (lim_of (by lia)) [some (.val (.int 0)),none,none]
 rw [hi] at b2
 have hul:=unitsOf_len (kept ps) 0 fun x hx => (hfit x hx).ok
 have hw:dep 0 ((unitsOf 0 (kept ps)).map (·.2)) = (walk 0 (kept ps)).map (fun k:Nat => (k:Int)):=dep_walk (kept ps) 0 0 hfit (fun x hx => (kept_mem hx).2)
 rw [walk_kept] at hw
 rcases run2 (callN FT (d + 1)) 46 (some (.val (.str (flat (kept ps))))) (unitsOf 0 (kept ps)) 0 none none (by lia) (by lia) with ⟨h1,e',h2⟩ | ⟨d',s2,s3,h1,h2⟩
 ·rw [exB_ret (b2.trans h2)]
  have:walk 0 ps = none:=by
   cases hq:walk 0 ps with
   | none => rfl
   | some k => rw [hq] at hw;rw [h1] at hw;exact (nS hw).elim
  rw [this];rfl
 ·rw [exB_next (b2.trans h2),exB_ret (r2_3 (callN FT (d + 1)) 51 _ _ _ _)]
  show some (PV.bool _) = _
  have h1:=hw.symm.trans h1
  cases hq:walk 0 ps with
  | none => rw [hq] at h1;exact (nS h1).elim
  | some k =>
   rw [hq] at h1
   have:d' = (k:Int):=by cases h1;rfl
   subst this
   congr 2
   by_cases hk:k = 0
   ·subst hk;rfl
   ·rw [decide_eq_false (by lia),decide_eq_false (fun q => hk (by injection q))]
end
section
noncomputable def body11:List S:=match fn11.body with | [_,_,_,.forn _ _ b,_] => b | _ => []
noncomputable def loop11 (C:Calls) (n:Nat):PV → Ev → Option (Fl × Ev):=fun v e => (unpV v).bind fun l => (setMany e [4,5] l).bind fun e => exB C n e body11
theorem len_two (c c':Nat):biop .len [.str [c,c']] = some (.int 2):=rfl
theorem len_1 (c:Nat):biop .len [.str [c]] = some (.int 1):=rfl
section
variable (C:Calls) (n:Nat) (s0 s1 s3 s4 s5 s6 s7 s8:Option Slot)
theorem turn11_q (b:Bool) (p:Int):loop11 C (n + 20) (.tup [.int p,.str [34]]) [s0,s1,some (.val (.bool b)),s3,s4,s5,s6,s7,s8] = some (.next,[s0,s1,some (.val (.bool !b)),s3,some (.val (.int p)),some (.val (.str [34])),s6,s7,s8]):=rfl
theorem ne11 {m:Nat} {u:List Nat} {e:Ev} (hg:evE C m e (.var 5) = some (.str u,e)) (hu:u ≠ [34]):evT C (m + 1) e (.cmp .eq (.var 5) (.str [34])) = some (false,e):=by
 cases m with
 | zero => exact (nS hg).elim
 | succ m => exact xT hg rfl (congrArg some (decide_eq_false hu))
theorem turn11_in (p:Int) (u:List Nat) (hu:u ≠ [34]):loop11 C (n + 20) (.tup [.int p,.str u]) [s0,s1,some (.val (.bool true)),s3,s4,s5,s6,s7,s8] = some (.next,[s0,s1,some (.val (.bool true)),s3,some (.val (.int p)),some (.val (.str u)),s6,s7,s8]) :=
 show exB C (n + 20) [s0,s1,some (.val (.bool true)),s3,some (.val (.int p)),some (.val (.str u)),s6,s7,s8] body11 = _ from xN (xI0 (ne11 C rfl hu) (xN (xI0 rfl rfl) rfl)) rfl
theorem turn11_two (p:Int) (c c':Nat):loop11 C (n + 20) (.tup [.int p,.str [c,c']]) [s0,s1,some (.val (.bool false)),s3,s4,s5,s6,s7,s8] = some (.next,[s0,s1,some (.val (.bool false)),s3,some (.val (.int p)),some (.val (.str [c,c'])),s6,s7,s8]) :=
 show exB C (n + 20) [s0,s1,some (.val (.bool false)),s3,some (.val (.int p)),some (.val (.str [c,c'])),s6,s7,s8] body11 = _ from xN (xI0 (ne11 C rfl nofun) (xN (xI0 rfl rfl) rfl)) rfl
theorem turn11_done (p dn:Int) (c:Nat) (hc:c ≠ 34) (h:p < dn):loop11 C (n + 20) (.tup [.int p,.str [c]]) [s0,s1,some (.val (.bool false)),some (.val (.int dn)),s4,s5,s6,s7,s8] = some (.next,[s0,s1,some (.val (.bool false)),some (.val (.int dn)),some (.val (.int p)),some (.val (.str [c])),s6,s7,s8]):=by
 refine (show exB C (n + 20) [s0,s1,some (.val (.bool false)),some (.val (.int dn)),some (.val (.int p)),some (.val (.str [c])),s6,s7,s8] body11 = _ from xN (xI0 (ne11 C rfl fun e => hc (List.cons.inj e).1) (xN (xI0 (xG (u:=true) (l:=[.cmp .eq (.bi .len [.var 5]) (.int 1),.cmp .ge (.var 4) (.var 3)]) rfl (xG rfl ?_)) rfl) rfl)) rfl)
 exact xG0 (xT rfl rfl (congrArg some (decide_eq_false (Int.not_le.mpr h)))) nofun
end
end
section
noncomputable def st11 (a:List Nat) (l:List PV) (p:Int) (c:List Nat) (dn j:Int) (s7 s8:Option Slot):Ev:=[some (.val (.str a)),some (.ownL l),some (.val (.bool false)),some (.val (.int dn)),some (.val (.int p)),some (.val (.str c)),some (.val (.int j)),s7,s8]
noncomputable def slc11:E:=.slc (.var 0) (some (.var 4)) (some (.bin .add (.var 4) (.var 6)))
noncomputable def cond11:T:=.and [.cmp .gt (.var 6) (.int 1),.cmp .notIn slc11 (.gl .tok)]
noncomputable def sym11:S:=.ifs (.cmp .isIn (.var 7) (.gl .tok)) [.asg 8 (.idx (.gl .tok) (.var 7))] [.asg 8 (.bin .add .nt (.bi .ord [.var 7]))]
theorem sm_add {p q:Int} (hp:small p = true) (hq:small q = true):binop .add (.int p) (.int q) = some (.int (p + q)):=if_pos (by rw [hp,hq];rfl)
section
variable {C:Calls} {n:Nat} {a:List Nat} {l:List PV} {p dn j s m:Int} {c w w2 w3:List Nat} {s4 s5 s6 s7 s8:Option Slot} {k j':Nat}
noncomputable def Word (a:List Nat) (p:Int) (j:Int) (w:List Nat):Prop:=small j = true ∧ small p = true ∧ slcop (.str a) (some (.int p)) (some (.int (p + j))) = some (.str w)
theorem word_of (hj:small j = true) (hp:small p = true) (hb:bnd (.int p) = some k) (hb':bnd (.int (p + j)) = some (k + j')) (ha:lim a.length = true) (hw:cut a k (k + j') = w):Word a p j w:=⟨hj,hp,hw ▸ slc_both _ hb hb' ha⟩
theorem slc11_ (h:Word a p j w):evE C (n + 4) (st11 a l p c dn j s7 s8) slc11 = some (.str w,st11 a l p c dn j s7 s8):=xS rfl rfl (xO (xB rfl rfl (sm_add h.2.1 h.1))) h.2.2
theorem test11 {b:Bool} (h1:decide (1 < j) = true) (h:Word a p j w) (hb:(!(lookS w tokL).isSome) = b):evT C (n + 8) (st11 a l p c dn j s7 s8) cond11 = some (b,st11 a l p c dn j s7 s8):=by
 have:=xT (op:=.notIn) (slc11_ (C:=C) (n:=n) (l:=l) (c:=c) (dn:=dn) (s7:=s7) (s8:=s8) h) (b:=.gl .tok) (y:=.gl .tok) rfl (c:=b) (congrArg some hb)
 refine xG (l:=[.cmp .notIn slc11 (.gl .tok)]) (xT rfl rfl (congrArg some h1)) ?_
 cases b with
 | true => exact xG this rfl
 | false => exact xG0 this Bool.false_ne_true
theorem wh3 (h:Word a p 3 w) (hs:lookS w tokL = some s):exW C (n + 20) (st11 a l p c dn 3 s7 s8) cond11 [.aug 6 .sub (.int 1)] 8 = some (.next,st11 a l p c dn 3 s7 s8):=xW0 (test11 rfl h (by rw [hs];rfl))
theorem wh2 (h3:Word a p 3 w3) (g3:lookS w3 tokL = none) (h:Word a p 2 w) (hs:lookS w tokL = some s):exW C (n + 20) (st11 a l p c dn 3 s7 s8) cond11 [.aug 6 .sub (.int 1)] 8 = some (.next,st11 a l p c dn 2 s7 s8) :=
 xW1 (test11 rfl h3 (by rw [g3];rfl)) (e2:=st11 a l p c dn 2 s7 s8) rfl (xW0 (test11 rfl h (by rw [hs];rfl)))
theorem wh1 (h3:Word a p 3 w3) (g3:lookS w3 tokL = none) (h2:Word a p 2 w2) (g2:lookS w2 tokL = none):exW C (n + 20) (st11 a l p c dn 3 s7 s8) cond11 [.aug 6 .sub (.int 1)] 8 = some (.next,st11 a l p c dn 1 s7 s8) :=
 xW1 (test11 rfl h3 (by rw [g3];rfl)) (e2:=st11 a l p c dn 2 s7 s8) rfl (xW1 (test11 rfl h2 (by rw [g2];rfl)) (e2:=st11 a l p c dn 1 s7 s8) rfl (xW0 rfl))
theorem symY (hs:lookS w tokL = some s):exS C (n + 8) (st11 a l p c dn j (some (.val (.str w))) s8) sym11 = some (.next,st11 a l p c dn j (some (.val (.str w))) (some (.val (.int s)))) :=
 xI1 (xT rfl rfl (by show some (lookS w tokL).isSome = some true;rw [hs];rfl)) (xN (xA (xX (x:=.gl .tok) (y:=.str w) rfl rfl (z:=.int s) (by show (lookS w tokL).map PV.int = _;rw [hs];rfl))) rfl)
theorem symN (hs:lookS w tokL = none) (ho:biop .ord [.str w] = some (.int s)) (hq:small s = true):exS C (n + 8) (st11 a l p c dn j (some (.val (.str w))) s8) sym11 = some (.next,st11 a l p c dn j (some (.val (.str w))) (some (.val (.int (256 + s))))) :=
 xI0 (xT rfl rfl (by show some (lookS w tokL).isSome = some false;rw [hs];rfl)) (xN (xA (xB (x:=.int 256) (y:=.int s) rfl (xF rfl ho) (sm_add rfl hq))) rfl)
theorem turn11_of {c:Nat} (hc:c ≠ 34) (h:dn ≤ p) (hl:lim l.length = true) (hW:exW C (n + 23) (st11 a l p [c] dn 3 s7 s8) cond11 [.aug 6 .sub (.int 1)] 8 = some (.next,st11 a l p [c] dn j s7 s8)) (hw:Word a p j w)
  (hs:exS C (n + 22) (st11 a l p [c] dn j (some (.val (.str w))) s8) sym11 = some (.next,st11 a l p [c] dn j (some (.val (.str w))) (some (.val (.int s))))) (hm:biop .len [.str w] = some (.int m)) (hm':small m = true) :
  ∃ s6' s7' s8',loop11 C (n + 30) (.tup [.int p,.str [c]]) [some (.val (.str a)),some (.ownL l),some (.val (.bool false)),some (.val (.int dn)),s4,s5,s6,s7,s8] = some (.next,[some (.val (.str a)),some (.ownL (l ++ [.tup [.int s,.int p,.int (p + m)]])),some (.val (.bool false)),some (.val (.int (p + m))),some (.val (.int p)),some (.val (.str [c])),s6',s7',s8']):=by
 refine ⟨some (.val (.int j)),some (.val (.str w)),some (.val (.int s)),?_⟩
 refine (show exB C (n + 30) [some (.val (.str a)),some (.ownL l),some (.val (.bool false)),some (.val (.int dn)),some (.val (.int p)),some (.val (.str [c])),s6,s7,s8] body11 = _ from ?_)
 refine xN (xI0 (xT rfl rfl (congrArg some (decide_eq_false fun e => hc (List.cons.inj e).1))) (xN (xI1 (xG (u:=true) (l:=[.cmp .eq (.bi .len [.var 5]) (.int 1),.cmp .ge (.var 4) (.var 3)]) rfl (xG rfl (xG (xT rfl rfl (congrArg some (decide_eq_true h))) rfl))) ?_) rfl)) rfl
 refine xN (e1:=st11 a l p [c] dn 3 s7 s8) rfl (xN (show exS C (n + 24) _ _ = _ from hW) (xN (xA (slc11_ (n:=n + 18) hw)) (xN hs ?_)))
 exact xN (xA (xB rfl (xF rfl hm) (sm_add hw.2.1 hm'))) (xN (xP (xU (xL rfl (xL rfl (xL rfl rfl)))) rfl hl) rfl)
end
end
section
end
section
end
section
noncomputable def rws:Nat → List Pc → List (Nat × Nat × Nat)
 | _,[] => []
 | p,.sk s :: r => rws (p + s.length) r
 | p,.ch s w :: r => (s,p,p + w.length) :: rws (p + w.length) r
noncomputable def rowOne (q:Nat × Nat × Nat):PV:=.tup [.int q.1,.int q.2.1,.int q.2.2]
noncomputable def rowV (l:List (Nat × Nat × Nat)):List PV:=l.map rowOne
theorem rws_app:∀ (a b:List Pc) (p:Nat),rws p (a ++ b) = rws p a ++ rws (p + (flat a).length) b
 | [],b,p => rfl
 | .sk s :: r,b,p => by
  show rws (p + s.length) (r ++ b) = rws (p + s.length) r ++ rws (p + (s ++ flat r).length) b
  rw [rws_app r b,List.length_append,Nat.add_assoc]
 | .ch s w :: r,b,p => by
  show _ :: rws (p + w.length) (r ++ b) = _ :: rws (p + w.length) r ++ rws (p + (w ++ flat r).length) b
  rw [rws_app r b,List.length_append,Nat.add_assoc];rfl
noncomputable def scanOk (s:Nat) (w R:List Nat):Prop :=
 w ≠ [] ∧ w.length ≤ 3 ∧ (((w ++ R).take 3 = w ∧ lookS w tokL = some (s:Int)) ∨
 (lookS ((w ++ R).take 3) tokL = none ∧ (w ++ R).take 2 = w ∧ lookS w tokL = some (s:Int)) ∨
 (lookS ((w ++ R).take 3) tokL = none ∧ lookS ((w ++ R).take 2) tokL = none ∧ (w ++ R).take 1 = w ∧ lookS w tokL = some (s:Int)) ∨
 (lookS ((w ++ R).take 3) tokL = none ∧ lookS ((w ++ R).take 2) tokL = none ∧ ∃ c,w = [c] ∧ lookS w tokL = none ∧ s = 256 + c ∧ c < 200000))
noncomputable def scans:List Pc → Prop
 | [] => True
 | .sk _ :: r => scans r
 | .ch s w :: r => scanOk s w (flat r) ∧ scans r
theorem cut_at (A B:List Nat) (j:Nat):cut (A ++ B) A.length (A.length + j) = B.take j:=by
 unfold cut
 rw [List.drop_take,List.drop_left]
 congr 1;lia
theorem loop11_done (C:Calls) (n:Nat):∀ (w:List Nat) (p dn:Int) (s0 s1 s4 s5 s6 s7 s8:Option Slot),(∀ c ∈ w,c ≠ 34) → p + w.length ≤ dn →
  ∃ s4' s5',loopF (loop11 C (n + 20)) (items (posU p w)) [s0,s1,some (.val (.bool false)),some (.val (.int dn)),s4,s5,s6,s7,s8] = some (.next,[s0,s1,some (.val (.bool false)),some (.val (.int dn)),s4',s5',s6,s7,s8])
 | [],_,_,_,_,s4,s5,_,_,_,_,_ => ⟨s4,s5,rfl⟩
 | c :: r,p,dn,s0,s1,s4,s5,s6,s7,s8,h,hd => by
  have hd:p + (r.length + 1:Nat) ≤ dn:=hd
  show ∃ s4' s5',loopF (loop11 C (n + 20)) (.tup [.int p,.str [c]] :: items (posU (p + 1) r)) _ = _
  rw [loopF_c]
  rw [turn11_done C n s0 s1 s4 s5 s6 s7 s8 p dn c (h c (.head _)) (by lia)]
  exact loop11_done C n r (p + 1) dn s0 s1 _ _ s6 s7 s8 (fun x hx => h x (.tail _ hx)) (by lia)
theorem loop11_sk (C:Calls) (n:Nat) (s:List Nat) (hs:skOk s) (p:Int) (s0 s1 s3 s4 s5 s6 s7 s8:Option Slot) :
  ∃ s4' s5',loopF (loop11 C (n + 20)) (items (skU p s)) [s0,s1,some (.val (.bool false)),s3,s4,s5,s6,s7,s8] = some (.next,[s0,s1,some (.val (.bool false)),s3,s4',s5',s6,s7,s8]):=by
 rcases hs with rfl | rfl | rfl | rfl | rfl
 ·refine ⟨some (.val (.int (p + 1 + 1))),some (.val (.str [34])),?_⟩
  show loopF (loop11 C (n + 20)) [.tup [.int p,.str [34]],.tup [.int (p + 1),.str [40]],.tup [.int (p + 1 + 1),.str [34]]] _ = _
  rw [loopF_c,turn11_q];dsimp only
  rw [loopF_c,show (!false) = true from rfl,turn11_in _ _ _ _ _ _ _ _ _ _ _ _ (by decide)];dsimp only
  rw [loopF_c,turn11_q];dsimp only
  rfl
 ·refine ⟨some (.val (.int (p + 1 + 1 + 1 + 1))),some (.val (.str [34])),?_⟩
  show loopF (loop11 C (n + 20)) [.tup [.int p,.str [34]],.tup [.int (p + 1 + 1),.str [92,34]],.tup [.int (p + 1 + 1 + 1),.str [41]],.tup [.int (p + 1 + 1 + 1 + 1),.str [34]]] _ = _
  rw [loopF_c,turn11_q];dsimp only
  rw [loopF_c,show (!false) = true from rfl,turn11_in _ _ _ _ _ _ _ _ _ _ _ _ (by decide)];dsimp only
  rw [loopF_c,turn11_in _ _ _ _ _ _ _ _ _ _ _ _ (by decide)];dsimp only
  rw [loopF_c,turn11_q];dsimp only
  rfl
 ·refine ⟨some (.val (.int (p + 1))),some (.val (.str [92,40])),?_⟩
  show loopF (loop11 C (n + 20)) [.tup [.int (p + 1),.str [92,40]]] _ = _
  rw [loopF_c,turn11_two];dsimp only
  rfl
 ·refine ⟨some (.val (.int (p + 1))),some (.val (.str [92,41])),?_⟩
  show loopF (loop11 C (n + 20)) [.tup [.int (p + 1),.str [92,41]]] _ = _
  rw [loopF_c,turn11_two];dsimp only
  rfl
 ·refine ⟨some (.val (.int (p + 1))),some (.val (.str [92,92])),?_⟩
  show loopF (loop11 C (n + 20)) [.tup [.int (p + 1),.str [92,92]]] _ = _
  rw [loopF_c,turn11_two];dsimp only
  rfl
theorem sm_nat {k:Nat} (hk:k < 300000):small (k:Int) = true:=small_nat (k:=k) (by first | rfl | lia) (by lia)
theorem rws_short (ps:List Pc):∀ p:Nat,(rws p ps).length ≤ ps.length:=by
 induction ps with
 | nil => intro p;exact Nat.le_refl _
 | cons x r ih =>
  intro p
  cases x with
  | sk s => exact Nat.le_succ_of_le (ih _)
  | ch s w => exact Nat.succ_le_succ (ih _)
theorem sym_step {C:Calls} {n:Nat} {a:List Nat} {l:List PV} {R:List Nat} {s c:Nat} {w':List Nat} {D:Nat} {dn:Int} {s4 s5 s6 s7 s8:Option Slot} (hal:lim a.length = true) (hp:D + (c :: w').length < 90000) (hcut:∀ j,cut a D (D + j) = ((c :: w') ++ R).take j) (hc:c ≠ 34) (hdn:dn ≤ (D:Nat)) (hll:lim l.length = true) (hsc:scanOk s (c :: w') R) :
  ∃ s6' s7' s8',loop11 C (n + 30) (.tup [.int (D:Nat),.str [c]]) [some (.val (.str a)),some (.ownL l),some (.val (.bool false)),some (.val (.int dn)),s4,s5,s6,s7,s8] =
     some (.next,[some (.val (.str a)),some (.ownL (l ++ [.tup [.int (s:Int),.int (D:Nat),.int ((D:Nat) + ((c :: w').length:Nat))]])),some (.val (.bool false)),some (.val (.int ((D:Nat) + ((c :: w').length:Nat)))),some (.val (.int (D:Nat))),some (.val (.str [c])),s6',s7',s8']):=by
 obtain ⟨hw0,hw3,hsc1⟩:=hsc
 have hl:(c :: w').length < 90000:=Nat.lt_of_le_of_lt (Nat.le_add_left _ _) hp
 have hD:D < 90000:=Nat.lt_of_le_of_lt (Nat.le_add_right _ _) hp
 have hm:biop .len [.str (c :: w')] = some (.int ((c :: w').length:Nat)):=len_str _ (lim_of (Nat.lt_trans hl (by decide)))
 have bn:∀ j:Nat,j < 10 → bnd (.int ((D:Nat) + (j:Nat):Int)) = some (D + j):=fun j hj => by
  have:=bnd_nat (D + j) (sm_nat (by lia))
  rwa [Int.natCast_add] at this
 have p0:small (D:Int) = true:=sm_nat (Nat.lt_trans hD (by decide))
 have hms:small ((c :: w').length:Nat) = true:=sm_nat (Nat.lt_trans hl (by decide))
 have wd:∀ {w:List Nat} (j:Nat),j < 10 → ((c :: w') ++ R).take j = w → Word a (D:Nat) (j:Nat) w:=fun j hj h => word_of (sm_nat (Nat.lt_trans hj (by decide))) p0 (bnd_nat _ p0) (bn j hj) hal ((hcut j).trans h)
 rcases hsc1 with ⟨h3,hs⟩ | ⟨h3,h2,hs⟩ | ⟨h3,h2,h1,hs⟩ | ⟨h3,h2,c1,h1,hs,h4,h5⟩
 ·exact turn11_of hc hdn hll (wh3 (wd 3 (by decide) h3) hs) (wd 3 (by decide) h3) (symY hs) hm hms
 ·exact turn11_of hc hdn hll (wh2 (wd 3 (by decide) rfl) h3 (wd 2 (by decide) h2) hs) (wd 2 (by decide) h2) (symY hs) hm hms
 ·exact turn11_of hc hdn hll (wh1 (wd 3 (by decide) rfl) h3 (wd 2 (by decide) rfl) h2) (wd 1 (by decide) h1) (symY hs) hm hms
 ·obtain ⟨rfl,rfl⟩:c = c1 ∧ w' = []:=List.cons.inj h1
  subst h4
  have:=turn11_of (l:=l) (s4:=s4) (s5:=s5) (s6:=s6) (s7:=s7) (s8:=s8) (C:=C) (n:=n) hc hdn hll (wh1 (wd 3 (by decide) rfl) h3 (wd 2 (by decide) rfl) h2) (wd 1 (by decide) (w:=[c]) rfl) (symN hs rfl (sm_nat (Nat.lt_trans h5 (by decide)))) (len_1 c) rfl
  rw [Int.natCast_add]
  exact this
theorem symRun (C:Calls) (n:Nat) (a:List Nat) (ha:a.length < 90000):∀ (rest done:List Pc) (dn:Int) (s4 s5 s6 s7 s8:Option Slot),a = flat (done ++ rest) → (∀ x ∈ rest,x.ok) → scans rest → dn ≤ (flat done).length → (done ++ rest).length < 90000 →
  ∃ s3' s4' s5' s6' s7' s8',loopF (loop11 C (n + 30)) (items (unitsOf (flat done).length rest)) [some (.val (.str a)),some (.ownL (rowV (rws 0 done))),some (.val (.bool false)),some (.val (.int dn)),s4,s5,s6,s7,s8] =
   some (.next,[some (.val (.str a)),some (.ownL (rowV (rws 0 (done ++ rest)))),some (.val (.bool false)),s3',s4',s5',s6',s7',s8'])
 | [],done,dn,s4,s5,s6,s7,s8,e,_,_,_,_ => by
  rw [List.append_nil]
  exact ⟨_,_,_,_,_,_,rfl⟩
 | x :: rest,done,dn,s4,s5,s6,s7,s8,e,hok,hsc,hdn,hlen => by
  have e2:a = flat ((done ++ [x]) ++ rest):=by rw [e];simp
  have hfl:flat (done ++ [x]) = flat done ++ x.str:=by rw [flat_app,flat_one]
  have hun:unitsOf ((flat done).length:Nat) (x :: rest) = x.units (flat done).length ++ unitsOf ((flat (done ++ [x])).length:Nat) rest:=by
   show _ ++ unitsOf ((flat done).length + x.str.length) rest = _
   rw [hfl,List.length_append];rfl
  have hit:items (unitsOf ((flat done).length:Nat) (x :: rest)) = items (x.units (flat done).length) ++ items (unitsOf ((flat (done ++ [x])).length:Nat) rest):=by rw [hun];unfold items;rw [List.map_append]
  rw [hit]
  have hlen':((done ++ [x]) ++ rest).length < 90000:=by simpa using hlen
  have hea:(done ++ x :: rest) = (done ++ [x]) ++ rest:=by simp
  have hok':∀ y ∈ rest,y.ok:=fun y hy => hok y (.tail _ hy)
  have hle:(flat (done ++ [x])).length ≤ a.length:=by rw [e2,flat_app (done ++ [x]) rest,List.length_append];lia
  cases x with
  | sk s =>
   obtain ⟨u4,u5,h1⟩:=loop11_sk C (n + 10) s (hok _ (.head _)) (flat done).length (some (.val (.str a))) (some (.ownL (rowV (rws 0 done)))) (some (.val (.int dn))) s4 s5 s6 s7 s8
   have h1:loopF (loop11 C (n + 30)) (items (Pc.units ((flat done).length:Nat) (Pc.sk s))) [some (.val (.str a)),some (.ownL (rowV (rws 0 done))),some (.val (.bool false)),some (.val (.int dn)),s4,s5,s6,s7,s8] = _:=h1
   rw [loopF_app _ _ _ _ h1,hea]
   have hr:rws 0 (done ++ [.sk s]) = rws 0 done:=by rw [rws_app];show _ ++ [] = _;rw [List.append_nil]
   rw [← hr]
   exact symRun C n a ha rest (done ++ [.sk s]) dn u4 u5 s6 s7 s8 e2 hok' hsc (by rw [hfl,List.length_append];lia) hlen'
  | ch s w =>
   obtain ⟨hsc1,hsc2⟩:=hsc
   have hwlen:(flat (done ++ [.ch s w])).length = (flat done).length + w.length:=by rw [hfl,List.length_append];rfl
   have hp:(flat done).length + w.length < 90000:=by rw [← hwlen];exact Nat.lt_of_le_of_lt hle ha
   obtain ⟨c,w',rfl⟩:∃ c w',w = c :: w':=by cases w with | nil => exact absurd rfl hsc1.1 | cons c w' => exact ⟨c,w',rfl⟩
   have hc34:∀ x ∈ c :: w',x ≠ 34:=fun x hx => (hok _ (.head _) x hx).2
   have hr:rws 0 (done ++ [.ch s (c :: w')]) = rws 0 done ++ [(s,(flat done).length,(flat done).length + (c :: w').length)]:=by
    rw [rws_app,Nat.zero_add];rfl
   have hrv:rowV (rws 0 (done ++ [.ch s (c :: w')])) = rowV (rws 0 done) ++ [.tup [.int (s:Int),.int ((flat done).length:Nat),.int (((flat done).length:Nat) + ((c :: w').length:Nat))]]:=by
    rw [hr];unfold rowV;rw [List.map_append];rfl
   have hll:lim (rowV (rws 0 done)).length = true:=by
    refine lim_of ?_
    unfold rowV;rw [List.length_map]
    rw [List.length_append] at hlen
    exact Nat.lt_of_le_of_lt (Nat.le_trans (rws_short done 0) (Nat.le_add_right _ _)) (Nat.lt_trans hlen (by decide))
   have step:=sym_step (C:=C) (n:=n) (l:=rowV (rws 0 done)) (s4:=s4) (s5:=s5) (s6:=s6) (s7:=s7) (s8:=s8) (lim_of (Nat.lt_trans ha (by decide))) hp (fun j => by rw [e,flat_app];exact cut_at _ _ _) (hc34 c (.head _)) hdn hll hsc1
   rw [← hrv] at step
   obtain ⟨u6,u7,u8,step⟩:=step
   obtain ⟨u4,u5,h2⟩:=loop11_done C (n + 10) w' (((flat done).length:Nat) + 1) (((flat done).length:Nat) + ((c :: w').length:Nat)) (some (.val (.str a))) (some (.ownL (rowV (rws 0 (done ++ [.ch s (c :: w')]))))) (some (.val (.int ((flat done).length:Nat)))) (some (.val (.str [c]))) u6 u7 u8 (fun x hx => hc34 x (.tail _ hx)) (by rw [List.length_cons];lia)
   have h1:loopF (loop11 C (n + 30)) (items (Pc.units ((flat done).length:Nat) (Pc.ch s (c :: w')))) [some (.val (.str a)),some (.ownL (rowV (rws 0 done))),some (.val (.bool false)),some (.val (.int dn)),s4,s5,s6,s7,s8] = some (.next,[some (.val (.str a)),some (.ownL (rowV (rws 0 (done ++ [.ch s (c :: w')])))),some (.val (.bool false)),some (.val (.int (((flat done).length:Nat) + ((c :: w').length:Nat)))),u4,u5,u6,u7,u8]):=by
    show loopF (loop11 C (n + 30)) (.tup [.int ((flat done).length:Nat),.str [c]] :: items (posU (((flat done).length:Nat) + 1) w')) _ = _
    rw [loopF_c,step]
    exact h2
   rw [loopF_app _ _ _ _ h1,hea]
   exact symRun C n a ha rest (done ++ [.ch s (c :: w')]) (((flat done).length:Nat) + ((c :: w').length:Nat)) u4 u5 u6 u7 u8 e2 hok' hsc2 (by rw [hwlen];lia) hlen'
noncomputable def s11_3:S:=.forn [4,5] (.gen (.var 0)) body11
theorem fn11_body:fn11.body = [.asgL 1 [],.asg 2 (.bool false),.asg 3 (.int 0),s11_3,.ret (.var 1)]:=rfl
theorem r11_3 (C:Calls) (n:Nat) (a:List Nat) (ha:lim a.length = true) (e:Ev):exS C (n + 15) (some (.val (.str a)) :: e) s11_3 = loopF (loop11 C (n + 14)) (esc 0 false a) (some (.val (.str a)) :: e):=by
 show (evI C (n + 14) _ (.gen (.var 0))).bind _ = _
 show ((if lim a.length = true then some (esc 0 false a,_) else none):Option (List PV × Ev)).bind _ = _
 rw [if_pos ha]
 rfl
theorem symbols_run {ps:List Pc} (d:Nat) (hok:∀ x ∈ ps,x.ok) (hsc:scans ps) (ha:(flat ps).length < 90000) (hp:ps.length < 90000):callN FT (d + 1) 11 [.val (.str (flat ps))] = some (.list (rowV (rws 0 ps))):=by
 rw [callN_eq d 11 _ rfl]
 show out (exB (callN FT d) 60 [some (.val (.str (flat ps))),none,none,none,none,none,none,none,none] fn11.body) = _
 rw [fn11_body]
 rw [exB_next (e':=[some (.val (.str (flat ps))),some (.ownL []),none,none,none,none,none,none,none]) rfl,
  exB_next (e':=[some (.val (.str (flat ps))),some (.ownL []),some (.val (.bool false)),none,none,none,none,none,none]) rfl,
  exB_next (e':=[some (.val (.str (flat ps))),some (.ownL []),some (.val (.bool false)),some (.val (.int 0)),none,none,none,none,none]) rfl]
 obtain ⟨u3,u4,u5,u6,u7,u8,h1⟩:=symRun (callN FT d) 25 (flat ps) ha ps [] 0 none none none none none rfl hok hsc (by lia) hp
 have hi:esc 0 false (flat ps) = items (unitsOf (flat ([]:List Pc)).length ps):=(esc_flat ps 0 hok).1
 have b3:=r11_3 (callN FT d) 41 (flat ps) (lim_of (by lia)) [some (.ownL []),some (.val (.bool false)),some (.val (.int 0)),none,none,none,none,none]
 rw [hi] at b3
 refine (congrArg out (exB_next (b3.trans h1))).trans ?_
 rw [exB_ret (v:=.list (rowV (rws 0 ps))) (e':=[some (.val (.str (flat ps))),some (.val (.list (rowV (rws 0 ps)))),some (.val (.bool false)),u3,u4,u5,u6,u7,u8]) (xR ((xVf (s:=.ownL (rowV (rws 0 ps))) rfl).trans rfl))]
 rfl
end
section
noncomputable def heardL:List (List Nat):=[[97],[122],[115,115],[115],[102,105],[102,102,105],[115,116],[97],[963],[110,111]]
noncomputable def opW:List (List Nat):=[[43],[45],[42,42],[62,62],[47,47],[60,60,61],[45,62],[46,46,46]]
noncomputable def opS:List Nat:=[14,15,35,34,47,44,51,52]
noncomputable def dressL:List (List Pc):=[[],[.sk [34,40,34]],[.sk [34,92,34,41,34]],[.sk [92,40]],[.sk [92,41]],[.sk [92,92]]]
set_option genCtorIdx false in
inductive F
 | leaf (i:Fin 10)
 | node (o:Fin 8) (d:Fin 6) (a b:F)
noncomputable def F.ctorIdx (x:F):Nat:=F.casesOn x (fun _ => 0) (fun _ _ _ _ => 1)
noncomputable def heard (i:Fin 10):List Nat:=heardL.getD i.1 []
noncomputable def wordOf (o:Fin 8):List Nat:=opW.getD o.1 []
noncomputable def symOf (o:Fin 8):Nat:=opS.getD o.1 0
noncomputable def dressP (d:Fin 6):List Pc:=dressL.getD d.1 []
noncomputable def lp:Pc:=.ch 7 [40]
noncomputable def rp:Pc:=.ch 8 [41]
noncomputable def opP (o:Fin 8):Pc:=.ch (symOf o) (wordOf o)
noncomputable def letP (i:Fin 10):List Pc:=(heard i).map fun c => .ch (256 + c) [c]
noncomputable def pcs:F → List Pc
 | .leaf i => letP i
 | .node o d a b => dressP d ++ lp :: (pcs a ++ opP o :: (pcs b ++ [rp]))
noncomputable def F.ops:F → Nat
 | .leaf _ => 0
 | .node _ _ a b => a.ops + b.ops + 1
noncomputable def told:F → PV
 | .leaf i => .str (heard i)
 | .node o _ a b => if symOf o % 2 = 0 then .tup [.int (symOf o:Nat),told a,told b] else .tup [.int (symOf o:Nat),told b,told a]
theorem told_c {o:Fin 8} {k:Fin 6} {a b:F}:told (.node o k a b) = if symOf o % 2 = 0 then .tup [.int (symOf o:Nat),told a,told b] else .tup [.int (symOf o:Nat),told b,told a]:=rfl
noncomputable def opB (s:Nat):Bool:=Nat.ble 9 s && Nat.ble s 255
theorem pcs_len:∀ f:F,(pcs f).length ≤ 7 * f.ops + 3
 | .leaf i => by
  show ((heard i).map _).length ≤ _
  rw [List.length_map]
  exact Nat.le_trans (show (heard i).length ≤ 3 by revert i;decide) (by lia)
 | .node o d a b => by
  have h1:=pcs_len a
  have h2:=pcs_len b
  have h3:(dressP d).length ≤ 1:=by revert d;decide
  show (dressP d ++ lp :: (pcs a ++ opP o :: (pcs b ++ [rp]))).length ≤ 7 * (a.ops + b.ops + 1) + 3
  simp only [List.length_append,List.length_cons,List.length_nil];lia
theorem flat_let (i:Fin 10):flat (letP i) = heard i:=by
 have:∀ l:List Nat,flat (l.map fun c => Pc.ch (256 + c) [c]) = l:=by
  intro l
  induction l with
  | nil => rfl
  | cons c r ih => show c :: flat _ = _;rw [ih]
 exact this _
theorem flat_len:∀ f:F,(flat (pcs f)).length ≤ 13 * f.ops + 3
 | .leaf i => by
  show (flat (letP i)).length ≤ _
  rw [flat_let]
  exact Nat.le_trans (show (heard i).length ≤ 3 by revert i;decide) (by lia)
 | .node o d a b => by
  have h1:=flat_len a
  have h2:=flat_len b
  have h3:(flat (dressP d)).length ≤ 5:=by revert d;decide
  have h4:(wordOf o).length ≤ 3:=by revert o;decide
  show (flat (dressP d ++ lp :: (pcs a ++ opP o :: (pcs b ++ [rp])))).length ≤ 13 * (a.ops + b.ops + 1) + 3
  rw [flat_app]
  show (flat (dressP d) ++ ([40] ++ flat (pcs a ++ opP o :: (pcs b ++ [rp])))).length ≤ _
  rw [flat_app]
  show (flat (dressP d) ++ ([40] ++ (flat (pcs a) ++ (wordOf o ++ flat (pcs b ++ [rp]))))).length ≤ _
  rw [flat_app]
  show (flat (dressP d) ++ ([40] ++ (flat (pcs a) ++ (wordOf o ++ (flat (pcs b) ++ [41]))))).length ≤ _
  simp only [List.length_append,List.length_cons,List.length_nil];lia
noncomputable def skB (s:List Nat):Bool:=s == [34,40,34] || s == [34,92,34,41,34] || s == [92,40] || s == [92,41] || s == [92,92]
noncomputable def fitB:Pc → Bool
 | .ch s w => (s == 7 && w == [40]) || (s == 8 && w == [41]) || (s != 7 && s != 8 && w.all fun c => c != 92 && c != 34 && c != 40 && c != 41)
 | .sk s => skB s
theorem fit_of {x:Pc} (h:fitB x = true):x.fit:=by
 cases x with
 | sk s =>
  have h:skB s = true:=h
  simp only [skB,Bool.or_eq_true,beq_iff_eq] at h
  show skOk s
  unfold skOk
  simpa only [or_assoc] using h
 | ch s w =>
  have h:((s == 7 && w == [40]) || (s == 8 && w == [41]) || (s != 7 && s != 8 && w.all fun c => c != 92 && c != 34 && c != 40 && c != 41)) = true:=h
  simp only [Bool.or_eq_true,Bool.and_eq_true,beq_iff_eq,bne_iff_ne,List.all_eq_true,ne_eq] at h
  show (_ ∨ _ ∨ _)
  rcases h with (h | h) | ⟨⟨h1,h2⟩,h3⟩
  ·exact .inl h
  ·exact .inr (.inl h)
  ·exact .inr (.inr ⟨h1,h2,fun c hc => ⟨(h3 c hc).1.1.1,(h3 c hc).1.1.2,(h3 c hc).1.2,(h3 c hc).2⟩⟩)
theorem fit_pcs:∀ f:F,∀ x ∈ pcs f,x.fit
 | .leaf i => by
  have h:(letP i).all fitB = true:=by revert i;decide
  exact fun x hx => fit_of (List.all_eq_true.mp h x hx)
 | .node o d a b => by
  have h1:=fit_pcs a
  have h2:=fit_pcs b
  have h3:(dressP d).all fitB = true:=by revert d;decide
  have h4:fitB (opP o) = true:=by revert o;decide
  intro x hx
  have hx:x ∈ dressP d ++ lp :: (pcs a ++ opP o :: (pcs b ++ [rp])):=hx
  simp only [List.mem_append,List.mem_cons,List.mem_nil_iff,or_false] at hx
  rcases hx with h | rfl | h | rfl | h | rfl
  ·exact fit_of (List.all_eq_true.mp h3 x h)
  ·exact fit_of rfl
  ·exact h1 x h
  ·exact fit_of h4
  ·exact h2 x h
  ·exact fit_of rfl
noncomputable def headOk (R:List Nat):Prop:=∀ x,R.head? = some x → x ≠ 61 ∧ x ≠ 62
theorem look_none {k:List Nat}:∀ t:List (List Nat × Int),(∀ q ∈ t,q.1 ≠ k) → lookS k t = none
 | [],_ => rfl
 | (y,i) :: r,h => by
  rw [lookS_c,if_neg (by rw [decide_eq_false (h (y,i) (.head _))];decide)]
  exact look_none r fun q hq => h q (.tail _ hq)
noncomputable def freeB (any:Bool) (w:List Nat):Bool:=tokL.all fun q => !(q.1.take w.length == w) || Nat.ble q.1.length w.length || (!any && ((q.1.drop w.length).head? == some 61 || (q.1.drop w.length).head? == some 62))
theorem free_cut {any:Bool} {w R:List Nat} (h:freeB any w = true) (hR:any = true ∨ headOk R) (n:Nat) (hn:w.length < n):(w ++ R).take n = w ∨ lookS ((w ++ R).take n) tokL = none:=by
 cases R with
 | nil => rw [List.append_nil];exact .inl (List.take_of_length_le (by lia))
 | cons x R =>
  refine .inr (look_none _ fun q hq e => ?_)
  have h1:=List.all_eq_true.mp h q hq
  have e1:(w ++ x :: R).take n = w ++ x :: R.take (n - w.length - 1):=by
   rw [List.take_append,List.take_of_length_le (by lia)]
   congr 1
   rw [show n - w.length = (n - w.length - 1) + 1 by lia,List.take_succ_cons]
   rfl
  rw [e,e1] at h1
  rw [List.take_left,List.drop_left] at h1
  simp only [beq_self_eq_true,Bool.not_true,Bool.false_or,List.head?_cons,Bool.or_eq_true,Bool.and_eq_true,Bool.not_eq_true',beq_iff_eq,Option.some.injEq] at h1
  rcases h1 with h1 | ⟨h1,h2⟩
  ·have:=Nat.le_of_ble_eq_true h1
   rw [List.length_append,List.length_cons] at this;lia
  ·rcases hR with hR | hR
   ·rw [hR] at h1;cases h1
   ·obtain ⟨h3,h4⟩:=hR x rfl
    rcases h2 with h2 | h2
    ·exact h3 h2
    ·exact h4 h2
noncomputable def wordB (any:Bool) (s:Nat) (w:List Nat):Bool:=freeB any w && Nat.ble 1 w.length && Nat.ble w.length 3 && lookS w tokL == some (s:Int)
theorem scan_word {any:Bool} {s:Nat} {w R:List Nat} (h:wordB any s w = true) (hR:any = true ∨ headOk R):scanOk s w R:=by
 simp only [wordB,Bool.and_eq_true,beq_iff_eq] at h
 obtain ⟨⟨⟨h1,h2⟩,h3⟩,h4⟩:=h
 have h2:=Nat.le_of_ble_eq_true h2
 have h3:=Nat.le_of_ble_eq_true h3
 refine ⟨fun e => by rw [e] at h2;exact absurd h2 (by decide),h3,?_⟩
 have ht:(w ++ R).take w.length = w:=List.take_left
 rcases Nat.lt_or_ge w.length 3 with h5 | h5
 ·rcases free_cut h1 hR 3 h5 with e | e
  ·exact .inl ⟨e,h4⟩
  ·rcases Nat.lt_or_ge w.length 2 with h6 | h6
   ·rcases free_cut h1 hR 2 h6 with e2 | e2
    ·exact .inr (.inl ⟨e,e2,h4⟩)
    ·rw [show w.length = 1 by lia] at ht
     exact .inr (.inr (.inl ⟨e,e2,ht,h4⟩))
   ·rw [show w.length = 2 by lia] at ht
    exact .inr (.inl ⟨e,ht,h4⟩)
 ·rw [show w.length = 3 by lia] at ht
  exact .inl ⟨ht,h4⟩
theorem scan_op (o:Fin 8) (R:List Nat) (hR:headOk R):scanOk (symOf o) (wordOf o) R :=
 scan_word (any:=false) (by revert o;decide +kernel) (.inr hR)
theorem scan_40 (R:List Nat):scanOk 7 [40] R:=scan_word (any:=true) (by decide +kernel) (.inl rfl)
theorem scan_41 (R:List Nat):scanOk 8 [41] R:=scan_word (any:=true) (by decide +kernel) (.inl rfl)
noncomputable def lets:List Nat:=[97,122,115,102,105,116,963,110,111]
noncomputable def letB (c:Nat):Bool:=freeB true [c] && lookS [c] tokL == none && Nat.blt c 200000
theorem scan_let {c:Nat} (hc:c ∈ lets) (R:List Nat):scanOk (256 + c) [c] R:=by
 have h:letB c = true:=List.all_eq_true.mp (show lets.all letB = true by decide +kernel) c hc
 simp only [letB,Bool.and_eq_true,beq_iff_eq] at h
 obtain ⟨⟨h1,h2⟩,h3⟩:=h
 have n3:lookS (([c] ++ R).take 3) tokL = none:=by rcases free_cut h1 (.inl rfl) 3 (show 1 < 3 by decide) with e | e;rw [e];exact h2;exact e
 have n2:lookS (([c] ++ R).take 2) tokL = none:=by rcases free_cut h1 (.inl rfl) 2 (show 1 < 2 by decide) with e | e;rw [e];exact h2;exact e
 exact ⟨fun e => (nomatch e),show 1 ≤ 3 by decide,.inr (.inr (.inr ⟨n3,n2,c,rfl,h2,rfl,Nat.le_of_ble_eq_true h3⟩))⟩
theorem scans_lets:∀ (l:List Nat) (X:List Pc),(∀ c ∈ l,c ∈ lets) → scans X → scans ((l.map fun c => Pc.ch (256 + c) [c]) ++ X)
 | [],_,_,h => h
 | c :: r,X,hl,h => ⟨scan_let (hl c (.head _)) _,scans_lets r X (fun x hx => hl x (.tail _ hx)) h⟩
theorem head_pcs (f:F) (X:List Pc):headOk (flat (pcs f ++ X)):=by
 intro x hx
 cases f with
 | leaf i =>
  have:∃ c r,heard i = c :: r ∧ c ≠ 61 ∧ c ≠ 62:=by
   have:∀ i:Fin 10,(heard i).head? ≠ none ∧ (heard i).head? ≠ some 61 ∧ (heard i).head? ≠ some 62:=by decide
   obtain ⟨h1,h2,h3⟩:=this i
   cases h:heard i with
   | nil => rw [h] at h1;exact absurd rfl h1
   | cons c r => rw [h] at h2 h3;exact ⟨c,r,rfl,fun q => h2 (by rw [q];rfl),fun q => h3 (by rw [q];rfl)⟩
  obtain ⟨c,r,e,h⟩:=this
  have:(flat (letP i ++ X)).head? = some x:=hx
  rw [flat_app,flat_let,e] at this
  cases this
  exact h
 | node o d a b =>
  have hx:(flat ((dressP d ++ lp :: (pcs a ++ opP o :: (pcs b ++ [rp]))) ++ X)).head? = some x:=hx
  rw [List.append_assoc,flat_app] at hx
  have:∀ d:Fin 6,flat (dressP d) = [] ∨ (flat (dressP d)).head? = some 34 ∨ (flat (dressP d)).head? = some 92:=by decide
  rcases this d with h | h | h
  ·rw [h] at hx
   cases hx
   decide
  ·cases h2:flat (dressP d) with
   | nil => rw [h2] at h;exact (nS h).elim
   | cons c r => rw [h2] at h hx;cases h;cases hx;decide
  ·cases h2:flat (dressP d) with
   | nil => rw [h2] at h;exact (nS h).elim
   | cons c r => rw [h2] at h hx;cases h;cases hx;decide
noncomputable def isSk:Pc → Bool
 | .sk _ => true
 | .ch _ _ => false
theorem scans_sks (l:List Pc) (X:List Pc) (h:scans X) (hl:l.all isSk = true):scans (l ++ X):=by
 induction l with
 | nil => exact h
 | cons p l ih =>
  obtain ⟨h1,h2⟩:=and_2 hl
  cases p with
  | sk s => exact ih h2
  | ch s w => exact (fT h1).elim
theorem scans_dress (d:Fin 6) (X:List Pc) (h:scans X):scans (dressP d ++ X):=scans_sks _ X h (by revert d;decide)
theorem scans_pcs:∀ (f:F) (X:List Pc),scans X → scans (pcs f ++ X)
 | .leaf i,X,h => scans_lets (heard i) X (by revert i;decide) h
 | .node o d a b,X,h => by
  show scans ((dressP d ++ lp :: (pcs a ++ opP o :: (pcs b ++ [rp]))) ++ X)
  simp only [List.append_assoc,List.cons_append,List.nil_append]
  refine scans_dress d _ ⟨scan_40 _,scans_pcs a _ ⟨scan_op o _ (head_pcs b _),scans_pcs b _ ⟨scan_41 _,h⟩⟩⟩
end
section
theorem walk_app:∀ (a b:List Pc) (d:Nat),walk d (a ++ b) = (walk d a).bind fun d => walk d b
 | [],b,d => by cases d <;> rfl
 | .sk s :: r,b,d => by
  rw [List.cons_append,walk_sk,walk_sk]
  exact walk_app r b d
 | .ch s w :: r,b,d => by
  rw [List.cons_append,walk_ch,walk_ch]
  split
  ·exact walk_app r b _
  ·split
   ·cases d with
    | zero => rfl
    | succ d => exact walk_app r b d
   ·exact walk_app r b _
theorem fin6 {P:Fin 6 → Prop} (h0:P 0) (h1:P 1) (h2:P 2) (h3:P 3) (h4:P 4) (h5:P 5) (k:Fin 6):P k :=
 Fin.cases h0 (Fin.cases h1 (Fin.cases h2 (Fin.cases h3 (Fin.cases h4 (Fin.cases h5 fun k => k.elim0))))) k
theorem walk_dress (o:Fin 6) (d:Nat) (X:List Pc):walk d (dressP o ++ X) = walk d X:=fin6 (P:=fun o => walk d (dressP o ++ X) = walk d X) rfl rfl rfl rfl rfl rfl o
theorem walk_lp (d:Nat) (X:List Pc):walk d (lp :: X) = walk (d + 1) X:=rfl
theorem walk_rp (d:Nat) (X:List Pc):walk (d + 1) (rp :: X) = walk d X:=rfl
theorem sym_ne (o:Fin 8):symOf o ≠ 7 ∧ symOf o ≠ 8:=by revert o;decide
theorem walk_op (o:Fin 8) (d:Nat) (X:List Pc):walk d (opP o :: X) = walk d X:=by
 show walk d (.ch (symOf o) (wordOf o) :: X) = _
 rw [walk_ch,if_neg (sym_ne o).1,if_neg (sym_ne o).2]
theorem walk_lets:∀ (l:List Nat) (d:Nat) (X:List Pc),walk d ((l.map fun c => Pc.ch (256 + c) [c]) ++ X) = walk d X
 | [],_,_ => rfl
 | c :: r,d,X => by
  show walk d (.ch (256 + c) [c] :: ((r.map fun c => Pc.ch (256 + c) [c]) ++ X)) = _
  rw [walk_ch,if_neg (by lia),if_neg (by lia)]
  exact walk_lets r d X
theorem walk_pcs:∀ (f:F) (d:Nat) (X:List Pc),walk d (pcs f ++ X) = walk d X
 | .leaf i,d,X => walk_lets (heard i) d X
 | .node o k a b,d,X => by
  show walk d ((dressP k ++ lp :: (pcs a ++ opP o :: (pcs b ++ [rp]))) ++ X) = _
  simp only [List.append_assoc,List.cons_append,List.nil_append]
  rw [walk_dress,walk_lp,walk_pcs a,walk_op,walk_pcs b,walk_rp]
inductive At:F → List Pc → List Pc → Prop
 | main {o:Fin 8} {k:Fin 6} {a b:F}:At (.node o k a b) (dressP k ++ lp :: pcs a) (pcs b ++ [rp])
 | left {o:Fin 8} {k:Fin 6} {a b:F} {p q:List Pc}:At a p q → At (.node o k a b) (dressP k ++ lp :: p) (q ++ opP o :: (pcs b ++ [rp]))
 | right {o:Fin 8} {k:Fin 6} {a b:F} {p q:List Pc}:At b p q → At (.node o k a b) (dressP k ++ lp :: (pcs a ++ opP o :: p)) (q ++ [rp])
inductive Bt:F → List Pc → Prop
 | mainL {o:Fin 8} {k:Fin 6} {a b:F} {p q:List Pc}:At b p q → Bt (.node o k a b) p
 | mainR {o:Fin 8} {k:Fin 6} {a b:F} {p q:List Pc}:At a p q → Bt (.node o k a b) q
 | cross {o:Fin 8} {k:Fin 6} {a b:F} {p q p' q':List Pc}:At a p q → At b p' q' → Bt (.node o k a b) (q ++ opP o :: p')
 | left {o:Fin 8} {k:Fin 6} {a b:F} {m:List Pc}:Bt a m → Bt (.node o k a b) m
 | right {o:Fin 8} {k:Fin 6} {a b:F} {m:List Pc}:Bt b m → Bt (.node o k a b) m
theorem At.up {f:F} {p q:List Pc} (h:At f p q):∀ d,∃ d',walk d p = some d' ∧ d < d':=by
 induction h with
 | main =>
  intro d
  refine ⟨d + 1,?_,by lia⟩
  rw [walk_dress,walk_lp]
  have:=walk_pcs ‹F› (d + 1) []
  rw [List.append_nil] at this
  rename_i o k a b
  have:=walk_pcs a (d + 1) []
  rw [List.append_nil] at this
  exact this
 | left _ ih =>
  intro d
  obtain ⟨d',h1,h2⟩:=ih (d + 1)
  exact ⟨d',by rw [walk_dress,walk_lp];exact h1,by lia⟩
 | right _ ih =>
  intro d
  obtain ⟨d',h1,h2⟩:=ih (d + 1)
  exact ⟨d',by rw [walk_dress,walk_lp,walk_pcs,walk_op];exact h1,by lia⟩
theorem At.down {f:F} {p q:List Pc} (h:At f p q):∀ X,walk 0 (q ++ X) = none:=by
 induction h with
 | main =>
  intro X
  rw [List.append_assoc,walk_pcs]
  rfl
 | left _ ih =>
  intro X
  rw [List.append_assoc]
  exact ih _
 | right _ ih =>
  intro X
  rw [List.append_assoc]
  exact ih _
theorem Bt.no {f:F} {m:List Pc} (h:Bt f m):walk 0 m ≠ some 0:=by
 induction h with
 | mainL h =>
  obtain ⟨d',h1,h2⟩:=h.up 0
  rw [h1];intro q;cases q;lia
 | mainR h =>
  have:=h.down []
  rw [List.append_nil] at this
  rw [this];intro q;exact (nS q).elim
 | cross h h' =>
  rw [h.down];intro q;exact (nS q).elim
 | left _ ih => exact ih
 | right _ ih => exact ih
theorem opB_of {s:Nat} (h:opB s = true):9 ≤ s ∧ s ≤ 255:=by
 unfold opB at h
 rw [Bool.and_eq_true] at h
 exact ⟨Nat.le_of_ble_eq_true h.1,Nat.le_of_ble_eq_true h.2⟩
theorem no_op_lets {l:List Nat} {X P2:List Pc} {P1:List Pc} {s:Nat} {w:List Nat} (hs:opB s = true) (h:(l.map fun c => Pc.ch (256 + c) [c]) ++ X = P1 ++ .ch s w :: P2):∃ Q,P1 = (l.map fun c => Pc.ch (256 + c) [c]) ++ Q ∧ X = Q ++ .ch s w :: P2:=by
 induction l generalizing P1 with
 | nil => exact ⟨P1,rfl,h⟩
 | cons c r ih =>
  cases P1 with
  | nil =>
   injection h with h1 _
   injection h1 with h1 _
   have:=opB_of hs
   lia
  | cons x P1 =>
   injection h with h1 h2
   obtain ⟨Q,h3,h4⟩:=ih h2
   exact ⟨Q,by rw [← h1,h3];rfl,h4⟩
theorem no_op_dress {k:Fin 6} {X P2:List Pc} {P1:List Pc} {s:Nat} {w:List Nat} (h:dressP k ++ X = P1 ++ .ch s w :: P2):∃ Q,P1 = dressP k ++ Q ∧ X = Q ++ .ch s w :: P2:=by
 have:=fin6 (P:=fun k => dressP k = [] ∨ ∃ t,dressP k = [.sk t]) (.inl rfl) (.inr ⟨_,rfl⟩) (.inr ⟨_,rfl⟩) (.inr ⟨_,rfl⟩) (.inr ⟨_,rfl⟩) (.inr ⟨_,rfl⟩) k
 rcases this with e | ⟨t,e⟩
 ·rw [e] at h ⊢;exact ⟨P1,rfl,h⟩
 ·rw [e] at h ⊢
  cases P1 with
  | nil => injection h with h1 _;cases h1
  | cons x P1 =>
   injection h with h1 h2
   exact ⟨P1,by rw [← h1];rfl,h2⟩
theorem no_op_one {x:Pc} {X P2 P1:List Pc} {s:Nat} {w:List Nat} (hx:∀ t u,x = .ch t u → opB t = false) (hs:opB s = true) (h:x :: X = P1 ++ .ch s w :: P2):∃ Q,P1 = x :: Q ∧ X = Q ++ .ch s w :: P2:=by
 cases P1 with
 | nil =>
  injection h with h1 _
  have:=hx _ _ h1
  rw [hs] at this;cases this
 | cons y P1 =>
  injection h with h1 h2
  exact ⟨P1,by rw [h1],h2⟩
theorem lp_no:∀ t u,lp = .ch t u → opB t = false:=by intro t u h;injection h with h _;rw [← h];rfl
theorem rp_no:∀ t u,rp = .ch t u → opB t = false:=by intro t u h;injection h with h _;rw [← h];rfl
theorem at_of {f:F} {s:Nat} {w:List Nat} (hs:opB s = true):∀ {X P1 P2:List Pc},pcs f ++ X = P1 ++ .ch s w :: P2 → (∃ Q,P2 = Q ++ X ∧ At f P1 Q) ∨ ∃ Q,P1 = pcs f ++ Q ∧ X = Q ++ .ch s w :: P2:=by
 induction f with
 | leaf i => exact fun h => .inr (no_op_lets hs h)
 | node o k a b iha ihb =>
  intro X P1 P2 h
  have hp:∀ T,pcs (.node o k a b) ++ T = dressP k ++ lp :: (pcs a ++ opP o :: (pcs b ++ rp :: T)):=fun T => by
   show (dressP k ++ lp :: (pcs a ++ opP o :: (pcs b ++ [rp]))) ++ T = _
   rw [List.append_assoc,List.cons_append,List.append_assoc,List.cons_append,List.append_assoc];rfl
  rw [hp] at h
  obtain ⟨Q0,e0,h0⟩:=no_op_dress h
  obtain ⟨Q,e1,h1⟩:=no_op_one lp_no hs h0
  subst e1
  subst e0
  rcases iha h1 with ⟨R,rfl,hA⟩ | ⟨R,rfl,h3⟩
  ·exact .inl ⟨R ++ opP o :: (pcs b ++ [rp]),by rw [List.append_assoc,List.cons_append,List.append_assoc];rfl,.left hA⟩
  ·cases R with
   | nil =>
    injection h3 with _ h2
    subst h2
    refine .inl ⟨pcs b ++ [rp],by rw [List.append_assoc];rfl,?_⟩
    rw [List.append_nil]
    exact .main
   | cons y R =>
    injection h3 with h4 h5
    subst h4
    rcases ihb h5 with ⟨T,rfl,hB⟩ | ⟨T,rfl,h6⟩
    ·exact .inl ⟨T ++ [rp],by rw [List.append_assoc];rfl,.right hB⟩
    ·obtain ⟨T,rfl,h7⟩:=no_op_one rp_no hs h6
     exact .inr ⟨T,(hp T).symm,h7⟩
theorem at_of' {f:F} {P1 P2:List Pc} {s:Nat} {w:List Nat} (hs:opB s = true) (h:pcs f = P1 ++ .ch s w :: P2):At f P1 P2:=by
 rcases at_of (f:=f) (X:=[]) hs (by rw [List.append_nil];exact h) with ⟨Q,rfl,hA⟩ | ⟨Q,_,h⟩
 ·rw [List.append_nil];exact hA
 ·cases Q <;> cases h
end
section
theorem app_split {α:Type} {o:α}:∀ {X Y P1 P2:List α},X ++ Y = P1 ++ o :: P2 → (∃ Q,X = P1 ++ o :: Q ∧ P2 = Q ++ Y) ∨ ∃ Q,P1 = X ++ Q ∧ Y = Q ++ o :: P2
 | [],Y,P1,P2,h => .inr ⟨P1,rfl,h⟩
 | x :: X,Y,[],P2,h => by
  injection h with h1 h2
  exact .inl ⟨X,by rw [h1];rfl,h2.symm⟩
 | x :: X,Y,y :: P1,P2,h => by
  injection h with h1 h2
  subst h1
  rcases app_split h2 with ⟨Q,rfl,rfl⟩ | ⟨Q,rfl,rfl⟩
  ·exact .inl ⟨Q,rfl,rfl⟩
  ·exact .inr ⟨Q,rfl,rfl⟩
theorem op_sym (o:Fin 8):opB (symOf o) = true:=by revert o;decide
theorem At.eq {f:F} {p q:List Pc} (h:At f p q):∃ o,pcs f = p ++ opP o :: q:=by
 induction h with
 | @main o k a b => exact ⟨o,by show dressP k ++ lp :: (pcs a ++ opP o :: (pcs b ++ [rp])) = _;simp⟩
 | @left o k a b p q h ih =>
  obtain ⟨u,e⟩:=ih
  exact ⟨u,by show dressP k ++ lp :: (pcs a ++ opP o :: (pcs b ++ [rp])) = _;rw [e];simp⟩
 | @right o k a b p q h ih =>
  obtain ⟨u,e⟩:=ih
  exact ⟨u,by show dressP k ++ lp :: (pcs a ++ opP o :: (pcs b ++ [rp])) = _;rw [e];simp⟩
theorem bt_at {f:F} {p r:List Pc} (h:At f p r):∀ {m q:List Pc} {s:Nat} {w:List Nat},opB s = true → r = m ++ .ch s w :: q → Bt f m:=by
 induction h with
 | @main o k a b =>
  intro m q s w hs h
  rcases at_of (f:=b) hs h with ⟨Q,_,hB⟩ | ⟨Q,_,h2⟩
  ·exact .mainL hB
  ·obtain ⟨T,_,h3⟩:=no_op_one rp_no hs h2
   cases T <;> cases h3
 | @left o k a b p' q' hA ih =>
  intro m q s w hs h
  rcases app_split h with ⟨Q,h2,_⟩ | ⟨Q,rfl,h2⟩
  ·exact .left (ih hs h2)
  ·cases Q with
   | nil => rw [List.append_nil];exact .mainR hA
   | cons y Q =>
    injection h2 with h3 h4
    subst h3
    rcases at_of (f:=b) hs h4 with ⟨R,_,hB⟩ | ⟨R,_,h5⟩
    ·exact .cross hA hB
    ·obtain ⟨T,_,h6⟩:=no_op_one rp_no hs h5
     cases T <;> cases h6
 | @right o k a b p' q' hB ih =>
  intro m q s w hs h
  rcases app_split h with ⟨Q,h2,_⟩ | ⟨Q,rfl,h2⟩
  ·exact .right (ih hs h2)
  ·obtain ⟨T,_,h6⟩:=no_op_one rp_no hs h2
   cases T <;> cases h6
theorem between {f:F} {p m q:List Pc} {s s':Nat} {w w':List Nat} (hs:opB s = true) (hs':opB s' = true) (h:pcs f = p ++ .ch s w :: (m ++ .ch s' w' :: q)):walk 0 m ≠ some 0 :=
 (bt_at (at_of' hs h) hs' rfl).no
noncomputable abbrev Row:=List (Nat × Nat × Nat)
noncomputable def jn:Nat → Row → List Nat
 | _,[] => []
 | i,q :: r => if opB q.1 then i :: jn (i + 1) r else jn (i + 1) r
theorem jn_app:∀ (a b:Row) (i:Nat),jn i (a ++ b) = jn i a ++ jn (i + a.length) b
 | [],b,i => rfl
 | q :: r,b,i => by
  show (if opB q.1 then i :: jn (i + 1) (r ++ b) else jn (i + 1) (r ++ b)) = (if opB q.1 then i :: jn (i + 1) r else jn (i + 1) r) ++ _
  rw [jn_app r b,List.length_cons]
  rw [show i + 1 + r.length = i + (r.length + 1) by lia]
  split <;> rfl
theorem jn_mem:∀ (ps:List Pc) (p i k:Nat),k ∈ jn i (rws p ps) → ∃ P1 s w P2,ps = P1 ++ .ch s w :: P2 ∧ opB s = true ∧ i ≤ k ∧ (rws p ps)[k - i]? = some (s,p + (flat P1).length,p + (flat P1).length + w.length)
 | [],p,i,k,h => by cases h
 | .sk s :: r,p,i,k,h => by
  obtain ⟨P1,s',w,P2,h1,h2,h3,h4⟩:=jn_mem r (p + s.length) i k h
  refine ⟨.sk s :: P1,s',w,P2,by rw [h1];rfl,h2,h3,?_⟩
  show (rws (p + s.length) r)[k - i]? = some (s',p + (s ++ flat P1).length,p + (s ++ flat P1).length + w.length)
  rw [h4,List.length_append,Nat.add_assoc]
 | .ch s w :: r,p,i,k,h => by
  have h:k ∈ (if opB s then i :: jn (i + 1) (rws (p + w.length) r) else jn (i + 1) (rws (p + w.length) r)):=h
  have tail:k ∈ jn (i + 1) (rws (p + w.length) r) → ∃ P1 s' w' P2,.ch s w :: r = P1 ++ .ch s' w' :: P2 ∧ opB s' = true ∧ i ≤ k ∧ (rws p (.ch s w :: r))[k - i]? = some (s',p + (flat P1).length,p + (flat P1).length + w'.length):=fun h => by
   obtain ⟨P1,s',w',P2,h1,h2,h3,h4⟩:=jn_mem r (p + w.length) (i + 1) k h
   refine ⟨.ch s w :: P1,s',w',P2,by rw [h1];rfl,h2,by lia,?_⟩
   obtain ⟨j,rfl⟩:∃ j,k = i + 1 + j:=⟨k - (i + 1),by lia⟩
   rw [show i + 1 + j - (i + 1) = j by lia] at h4
   rw [show i + 1 + j - i = j + 1 by lia]
   show (rws (p + w.length) r)[j]? = some (s',p + (w ++ flat P1).length,p + (w ++ flat P1).length + w'.length)
   rw [h4,List.length_append,Nat.add_assoc]
  split at h
  ·rename_i hs
   rcases List.mem_cons.mp h with rfl | h
   ·exact ⟨[],s,w,r,rfl,hs,Nat.le_refl _,by rw [Nat.sub_self];rfl⟩
   ·exact tail h
  ·exact tail h
end
section
noncomputable def selF (C:Calls) (n:Nat) (e:Ev) (elt:E) (v:Nat) (cond:List T):PV → Option (Option PV):=fun x =>
 (evTs C n (setS (vals e) v (.val x)) true cond).bind fun q => if q.1 then (evE C n q.2 elt).bind fun y => some (some y.1) else some none
theorem selF_no {C:Calls} {n:Nat} {e e1:Ev} {elt:E} {v:Nat} {cond:List T} {x:PV} (h:evTs C n (setS (vals e) v (.val x)) true cond = some (false,e1)):selF C n e elt v cond x = some none:=ob h rfl
theorem selF_yes {C:Calls} {n:Nat} {e e1 e2:Ev} {elt:E} {v:Nat} {cond:List T} {x y:PV} (h:evTs C n (setS (vals e) v (.val x)) true cond = some (true,e1)) (h2:evE C n e1 elt = some (y,e2)):selF C n e elt v cond x = some (some y):=ob h (ob h2 rfl)
theorem ev_comp {C:Calls} {n:Nat} {e e1:Ev} {elt:E} {v:Nat} {it:It} {cond:List T} {its r:List PV} (hv:Nat.blt v e.length = true) (hi:evI C n e it = some (its,e1)) (hr:compL (selF C n e1 elt v cond) its = some r) (h1:lim r.length = true) (h2:lim its.length = true) :
  evE C (n + 1) e (.comp elt v it cond) = some (.list r,e1):=by
 show (if Nat.blt v e.length = true then (evI C n e it).bind fun q => (compL (selF C n q.2 elt v cond) q.1).bind fun r => if (lim r.length && lim q.1.length) = true then some (PV.list r,q.2) else none else none) = _
 rw [if_pos hv,hi]
 show ((compL (selF C n e1 elt v cond) its).bind fun r => if (lim r.length && lim its.length) = true then some (PV.list r,e1) else none) = _
 rw [hr]
 show (if (lim r.length && lim its.length) = true then some (PV.list r,e1) else none) = _
 rw [if_pos (by rw [h1,h2];rfl)]
theorem compL_s {f:PV → Option (Option PV)} {x y:PV} {r l:List PV} (h:f x = some (some y)) (h2:compL f r = some l):compL f (x :: r) = some (y :: l):=by
 show ((f x).bind fun y => (compL f r).bind fun ys => match y with | some y => some (y :: ys) | none => some ys) = _
 rw [h,h2];rfl
theorem compL_sel {f:PV → Option (Option PV)} {α:Type} (i:α → PV) (p:α → Bool) (g:α → PV):∀ l:List α,(∀ x ∈ l,f (i x) = some (if p x then some (g x) else none)) → compL f (l.map i) = some ((l.filter p).map g)
 | [],_ => rfl
 | x :: r,h => by
  have ih:=compL_sel i p g r fun y hy => h y (.tail _ hy)
  show ((f (i x)).bind fun y => (compL f (r.map i)).bind fun ys => match y with | some y => some (y :: ys) | none => some ys) = _
  rw [h x (.head _),ih,List.filter_cons]
  cases p x <;> rfl
theorem compL_jn {f:PV → Option (Option PV)}:∀ (r:Row) (i:Nat),(∀ j q,r[j]? = some q → f (.int ((i + j:Nat):Int)) = some (if opB q.1 then some (.int ((i + j:Nat):Int)) else none)) → compL f (rangeI i r.length) = some ((jn i r).map fun k:Nat => .int (k:Int))
 | [],_,_ => rfl
 | q :: r,i,h => by
  have h0:=h 0 q rfl
  have ih:=compL_jn r (i + 1) fun j q' hq => by
   have:=h (j + 1) q' (by simpa using hq)
   rwa [show i + (j + 1) = i + 1 + j by lia] at this
  show ((f (.int (i:Int))).bind fun y => (compL f (rangeI ((i:Int) + 1) r.length)).bind fun ys => match y with | some y => some (y :: ys) | none => some ys) = _
  rw [show (i:Int) + 1 = ((i + 1:Nat):Int) by lia,ih]
  rw [Nat.add_zero] at h0
  rw [h0]
  show _ = some ((if opB q.1 then i :: jn (i + 1) r else jn (i + 1) r).map _)
  cases opB q.1 <;> rfl
theorem call8 (d:Nat) (s:Int):callN FT (d + 1) 8 [.val (.int s)] = some (.bool (decide (s < 256))):=by
 rw [callN_eq d 8 _ rfl]
 show out (exB (callN FT d) 60 [some (.val (.int s))] fn8.body) = _
 rfl
theorem call9 (d:Nat) (s:Int):callN FT (d + 1) 9 [.val (.int s)] = some (.bool (decide (256 ≤ s))):=by
 rw [callN_eq d 9 _ rfl]
 show out (exB (callN FT d) 60 [some (.val (.int s))] fn9.body) = _
 rfl
theorem idx_list (l:List PV) (x:Int):idxop (.list l) (.int x) = nth l x:=rfl
theorem idx_tup (l:List PV) (x:Int):idxop (.tup l) (.int x) = nth l x:=rfl
theorem nth_0 (a:PV) (l:List PV):nth (a :: l) 0 = some a:=rfl
theorem nth_1 (a b:PV) (l:List PV):nth (a :: b :: l) 1 = some b:=rfl
theorem nth_2 (a b c:PV) (l:List PV):nth (a :: b :: c :: l) 2 = some c:=rfl
theorem nth_nat {l:List PV} {k:Nat} {v:PV} (h:l[k]? = some v) (hk:k < 100000):nth l (k:Int) = some v:=by
 show (if (decide ((0:Int) ≤ (k:Int)) && small (k:Int)) = true then l[(k:Int).toNat]? else none) = _
 rw [if_pos (by rw [small_nat (k:=k) (by first | rfl | lia) (by lia),Bool.and_true];exact decide_eq_true (by lia))]
 exact h
noncomputable def c12:E:=.comp (.var 6) 6 (.range (.bi .len [(.var 1)])) [(.and [(.val (.call 8 [(.idx (.idxv 1 (.var 6)) (.int (0)))] none)),(.cmp .gt (.idx (.idxv 1 (.var 6)) (.int (0))) (.int (8)))])]
theorem f12 (C:Calls) (hC:∀ s,C 8 [.val (.int s)] = some (.bool (decide (s < 256)))) (n:Nat) (a:PV) (l:List PV) (x s t u:Int) (hn:nth l x = some (.tup [.int s,.int t,.int u])) :
  selF C (n + 20) [some (.val a),some (.val (.list l)),none,none,none,none,none,none] (.var 6) 6 [(.and [(.val (.call 8 [(.idx (.idxv 1 (.var 6)) (.int (0)))] none)),(.cmp .gt (.idx (.idxv 1 (.var 6)) (.int (0))) (.int (8)))])] (.int x) = some (if decide (s < 256) && decide (8 < s) then some (.int x) else none):=by
 by_cases h1:s < 256
 ·by_cases h2:8 < s
  ·rw [decide_eq_true h1,decide_eq_true h2]
   exact selF_yes (xG (xAnd (xG (xTv (xK1 (xX (xVi rfl rfl hn) rfl rfl) ((hC s).trans (by rw [decide_eq_true h1])))) (xG (xT (xX (xVi rfl rfl hn) rfl rfl) rfl (sT h2)) rfl))) rfl) rfl
  ·rw [decide_eq_false h2,Bool.and_false]
   exact selF_no (xG0 (xAnd (xG (xTv (xK1 (xX (xVi rfl rfl hn) rfl rfl) ((hC s).trans (by rw [decide_eq_true h1])))) (xG0 (xT (xX (xVi rfl rfl hn) rfl rfl) rfl (sF h2)) Bool.false_ne_true))) Bool.false_ne_true)
 ·rw [decide_eq_false h1,Bool.false_and]
  exact selF_no (xG0 (xAnd (xG0 (xTv (xK1 (xX (xVi rfl rfl hn) rfl rfl) ((hC s).trans (by rw [decide_eq_false h1])))) Bool.false_ne_true)) Bool.false_ne_true)
theorem opB_eq (s:Nat):(decide ((s:Int) < 256) && decide ((8:Int) < s)) = opB s:=by
 unfold opB
 rw [Bool.eq_iff_iff,Bool.and_eq_true,Bool.and_eq_true,decide_eq_true_eq,decide_eq_true_eq,Nat.ble_eq,Nat.ble_eq]
 lia
theorem jn_len:∀ (r:Row) (i:Nat),(jn i r).length ≤ r.length
 | [],_ => Nat.le_refl _
 | q :: r,i => by
  have:=jn_len r (i + 1)
  show (if opB q.1 then i :: jn (i + 1) r else jn (i + 1) r).length ≤ _
  split
  ·exact Nat.succ_le_succ this
  ·exact Nat.le_succ_of_le this
theorem rangeI_len:∀ (n:Nat) (a:Int),(rangeI a n).length = n
 | 0,_ => rfl
 | n + 1,a => congrArg (· + 1) (rangeI_len n (a + 1))
theorem rowV_get {R:Row} {j:Nat} {q:Nat × Nat × Nat} (h:R[j]? = some q):(rowV R)[j]? = some (rowOne q):=by
 unfold rowV;rw [List.getElem?_map,h];rfl
theorem evI_range (C:Calls) (n:Nat) (e:Ev) (x:E) (i:Int) (hx:evE C n e x = some (.int i,e)) (hs:small i = true):evI C (n + 1) e (.range x) = some (rangeI 0 i.toNat,e):=by
 show (evE C n e x).bind _ = _
 rw [hx]
 show (if small i = true then some (rangeI 0 i.toNat,e) else none) = _
 rw [if_pos hs]
theorem r12_0 (C:Calls) (hC:∀ s,C 8 [.val (.int s)] = some (.bool (decide (s < 256)))) (n:Nat) (a:PV) (R:Row) (hR:R.length < 90000) :
  exS C (n + 30) [some (.val a),some (.val (.list (rowV R))),none,none,none,none,none,none] (.asg 3 c12) = some (.next,[some (.val a),some (.val (.list (rowV R))),none,some (.val (.list ((jn 0 R).map fun k:Nat => .int (k:Int)))),none,none,none,none]):=by
 have hl:(rowV R).length = R.length:=by unfold rowV;rw [List.length_map]
 have hs:small ((rowV R).length:Int) = true:=small_nat (k:=R.length) (by first | rfl | lia) (by lia)
 have hi:evI C (n + 28) [some (.val a),some (.val (.list (rowV R))),none,none,none,none,none,none] (.range (.bi .len [(.var 1)])) = some (rangeI 0 R.length,[some (.val a),some (.val (.list (rowV R))),none,none,none,none,none,none]):=by
  have:=evI_range C (n + 27) [some (.val a),some (.val (.list (rowV R))),none,none,none,none,none,none] (.bi .len [(.var 1)]) (rowV R).length (xF (xL rfl rfl) (len_list _ (lim_of (by lia:(rowV R).length < 100000)))) hs
  rw [this]
  rw [show ((rowV R).length:Int).toNat = R.length by lia]
 have hr:compL (selF C (n + 28) [some (.val a),some (.val (.list (rowV R))),none,none,none,none,none,none] (.var 6) 6 [(.and [(.val (.call 8 [(.idx (.idxv 1 (.var 6)) (.int (0)))] none)),(.cmp .gt (.idx (.idxv 1 (.var 6)) (.int (0))) (.int (8)))])]) (rangeI ((0:Nat):Int) R.length) = some ((jn 0 R).map fun k:Nat => .int (k:Int)):=by
  refine compL_jn R 0 fun j q hq => ?_
  rw [Nat.zero_add]
  have hj:j < R.length:=by
   rcases Nat.lt_or_ge j R.length with h | h
   ·exact h
   ·rw [List.getElem?_eq_none h] at hq;exact (nS hq).elim
  rw [f12 C hC (n + 8) a (rowV R) (j:Int) _ _ _ (nth_nat (rowV_get hq) (by lia)),opB_eq]
 have:=jn_len R 0
 have hc:evE C (n + 29) [some (.val a),some (.val (.list (rowV R))),none,none,none,none,none,none] c12 = _:=ev_comp rfl hi hr (lim_of (by rw [List.length_map];lia)) (lim_of (by rw [rangeI_len];lia))
 show (evE C (n + 29) _ c12).bind _ = _
 rw [hc];rfl
end
section
theorem exS_if {C:Calls} {n:Nat} {e e':Ev} {t:T} {a b:List S} {c:Bool} (h:evT C n e t = some (c,e')):exS C (n + 1) e (.ifs t a b) = if c then exB C n e' a else exB C n e' b:=by
 show (evT C n e t).bind _ = _
 rw [h];rfl
theorem exS_ret {C:Calls} {n:Nat} {e e':Ev} {x:E} {v:PV} (h:evE C n e x = some (v,e')):exS C (n + 1) e (.ret x) = some (.ret v,e'):=by
 show (evE C n e x).bind _ = _
 rw [h];rfl
theorem exS_asg {C:Calls} {n:Nat} {e e':Ev} {i:Nat} {x:E} {v:PV} (h:evE C n e x = some (v,e')):exS C (n + 1) e (.asg i x) = some (.next,setS e' i (.val v)):=by
 show (evE C n e x).bind _ = _
 rw [h];rfl
theorem ev_bi1 {C:Calls} {n:Nat} {e e':Ev} {f:Bi} {x:E} {v r:PV} (h:evE C (n + 1) e x = some (v,e')) (hr:biop f [v] = some r):evE C (n + 3) e (.bi f [x]) = some (r,e'):=by
 have hl:evL C (n + 2) e [x] = some ([v],e'):=by
  show (evE C (n + 1) e x).bind _ = _
  rw [h];rfl
 show (evL C (n + 2) e [x]).bind (fun q => (biop f q.1).bind fun r => some (r,q.2)) = _
 rw [hl]
 show (biop f [v]).bind (fun r => some (r,e')) = _
 rw [hr];rfl
noncomputable def e12b:E:=.comp (.bi .chr [(.bin .sub (.idxv 7 (.int (0))) .nt)]) 7 (.val (.var 1)) [(.val (.call 9 [(.idxv 7 (.int (0)))] none))]
theorem f12b (C:Calls) (hC:∀ s,C 9 [.val (.int s)] = some (.bool (decide (256 ≤ s)))) (n:Nat) (a l:PV) (s3:PV) (s t u:Int) (hs:small s = true) (x:PV) (hx:256 ≤ s → biop .chr [.int (s - 256)] = some x) :
  selF C (n + 20) [some (.val a),some (.val l),none,some (.val s3),none,none,none,none] (.bi .chr [(.bin .sub (.idxv 7 (.int (0))) .nt)]) 7 [(.val (.call 9 [(.idxv 7 (.int (0)))] none))] (.tup [.int s,.int t,.int u]) = some (if decide (256 ≤ s) then some x else none):=by
 by_cases h1:256 ≤ s
 ·have hx:=hx h1
  rw [decide_eq_true h1]
  exact selF_yes (xG (xTv (xK1 (xVi rfl rfl rfl) ((hC s).trans (by rw [decide_eq_true h1])))) rfl) (xF (xL (xB (xVi rfl rfl rfl) rfl (if_pos (by rw [hs];rfl))) rfl) hx)
 ·rw [decide_eq_false h1]
  exact selF_no (xG0 (xTv (xK1 (xVi rfl rfl rfl) ((hC s).trans (by rw [decide_eq_false h1])))) Bool.false_ne_true)
theorem chr_256 {s:Nat} (h1:256 ≤ s) (h2:s < 100000):biop .chr [.int ((s:Int) - 256)] = some (.str [s - 256]):=by
 show (if (decide (0 ≤ (s:Int) - 256) && decide ((s:Int) - 256 < 1114112)) = true then some (PV.str [((s:Int) - 256).toNat]) else none) = _
 rw [if_pos (by rw [Bool.and_eq_true,decide_eq_true_eq,decide_eq_true_eq];lia)]
 rw [show ((s:Int) - 256).toNat = s - 256 by lia]
noncomputable def s12_1:S:=.ifs (.cmp .eq (.var 3) (.lst [])) [(.ret (.bi .join [e12b]))] []
theorem r12_1n (C:Calls) (n:Nat) (s0 s1 s2 s4 s5 s6 s7:Option Slot) (l:List PV) (hl:l.isEmpty = false):exS C (n + 10) [s0,s1,s2,some (.val (.list l)),s4,s5,s6,s7] s12_1 = some (.next,[s0,s1,s2,some (.val (.list l)),s4,s5,s6,s7]):=by
 have h:evT C (n + 9) [s0,s1,s2,some (.val (.list l)),s4,s5,s6,s7] (.cmp .eq (.var 3) (.lst [])) = some (false,[s0,s1,s2,some (.val (.list l)),s4,s5,s6,s7]):=xT rfl rfl (congrArg some hl)
 rw [s12_1,exS_if h];rfl
noncomputable def namesOf (R:Row):List Nat:=(R.filter fun q => decide (256 ≤ q.1)).map fun q => q.1 - 256
theorem joinS_one:∀ l:List Nat,joinS (l.map fun c => .str [c]) = some l
 | [] => rfl
 | c :: r => by show (joinS (r.map fun c => .str [c])).map ([c] ++ ·) = _;rw [joinS_one r];rfl
theorem r12_1y (C:Calls) (hC:∀ s,C 9 [.val (.int s)] = some (.bool (decide (256 ≤ s)))) (n:Nat) (a:PV) (R:Row) (hR:R.length < 90000) (hq:∀ q ∈ R,q.1 < 100000) :
  ∃ e',exS C (n + 30) [some (.val a),some (.val (.list (rowV R))),none,some (.val (.list [])),none,none,none,none] s12_1 = some (.ret (.str (namesOf R)),e'):=by
 have hl:(rowV R).length = R.length:=by unfold rowV;rw [List.length_map]
 have hlen:(namesOf R).length ≤ R.length:=by unfold namesOf;rw [List.length_map];exact List.length_filter_le ..
 have hi:evI C (n + 24) [some (.val a),some (.val (.list (rowV R))),none,some (.val (.list [])),none,none,none,none] (.val (.var 1)) = some (rowV R,[some (.val a),some (.val (.list (rowV R))),none,some (.val (.list [])),none,none,none,none]):=rfl
 have hr:compL (selF C (n + 24) [some (.val a),some (.val (.list (rowV R))),none,some (.val (.list [])),none,none,none,none] (.bi .chr [(.bin .sub (.idxv 7 (.int (0))) .nt)]) 7 [(.val (.call 9 [(.idxv 7 (.int (0)))] none))]) (rowV R) = some ((namesOf R).map fun c => .str [c]):=by
  have:=compL_sel (f:=selF C (n + 24) [some (.val a),some (.val (.list (rowV R))),none,some (.val (.list [])),none,none,none,none] (.bi .chr [(.bin .sub (.idxv 7 (.int (0))) .nt)]) 7 [(.val (.call 9 [(.idxv 7 (.int (0)))] none))]) rowOne (fun q:Nat × Nat × Nat => decide (256 ≤ q.1)) (fun q => .str [q.1 - 256]) R fun q hqm => by
   have h1:=hq q hqm
   have:=f12b C hC (n + 4) a (.list (rowV R)) (.list []) (q.1:Int) (q.2.1:Int) (q.2.2:Int) (small_nat (k:=q.1) (by first | rfl | lia) (by lia)) (.str [q.1 - 256]) fun h => chr_256 (by lia) h1
   rw [show decide (256 ≤ (q.1:Int)) = decide (256 ≤ q.1) from decide_eq_decide.mpr (by lia)] at this
   exact this
  unfold namesOf
  rw [List.map_map]
  exact this
 have hc:evE C (n + 25) [some (.val a),some (.val (.list (rowV R))),none,some (.val (.list [])),none,none,none,none] e12b = _:=ev_comp rfl hi hr (lim_of (by rw [List.length_map];lia)) (lim_of (by lia))
 have h:evT C (n + 29) [some (.val a),some (.val (.list (rowV R))),none,some (.val (.list [])),none,none,none,none] (.cmp .eq (.var 3) (.lst [])) = some (true,[some (.val a),some (.val (.list (rowV R))),none,some (.val (.list [])),none,none,none,none]):=rfl
 rw [s12_1,exS_if h,if_pos rfl]
 exact ⟨_,exB_ret (exS_ret (ev_bi1 hc (join_list _ _ (joinS_one (namesOf R)) (lim_of (by rw [List.length_map];lia)) (lim_of (by lia)))))⟩
noncomputable def body12:List S:=match fn12.body with | [_,_,.for1 _ _ b,_] => b | _ => []
noncomputable def loop12 (C:Calls) (n:Nat):PV → Ev → Option (Fl × Ev):=fun v e => exB C n (setS e 2 (.val v)) body12
theorem turn12_no (C:Calls) (n:Nat) (a:PV) (l:List PV) (s2 s3 s4 s5 s6 s7:Option Slot) (x s0 t0 u0 s t u:Int) (y:PV) (h0:nth l 0 = some (.tup [.int s0,.int t0,.int u0])) (hx:nth l x = some (.tup [.int s,.int t,.int u])) (hy:slcop a (some (.int u0)) (some (.int t)) = some y) (hC:C 2 [.val y] = some (.bool false)) :
  loop12 C (n + 20) (.int x) [some (.val a),some (.val (.list l)),s2,s3,s4,s5,s6,s7] = some (.next,[some (.val a),some (.val (.list l)),some (.val (.int x)),s3,s4,s5,s6,s7]):=by
 show exB C (n + 20) [some (.val a),some (.val (.list l)),some (.val (.int x)),s3,s4,s5,s6,s7] body12 = _
 exact xN (xI0 (xTv (xK1 (xS rfl (xO (xX (xVi rfl rfl h0) rfl rfl)) (xO (xX (xVi rfl rfl hx) rfl rfl)) hy) hC)) rfl) rfl
theorem x12 {C:Calls} {n:Nat} {e:Ev} {l:List PV} {x s t u:Int} (h1:getS e 1 = some (.val (.list l))) (h2:getS e 2 = some (.val (.int x))) (hx:nth l x = some (.tup [.int s,.int t,.int u])):evE C (n + 3) e (.idx (.idxv 1 (.var 2)) (.int (0))) = some (.int s,e):=xX (xVi h1 (xV h2) hx) rfl rfl
theorem turn12_yes (C:Calls) (n:Nat) (a:PV) (l l1 l2:List PV) (s2 s3 s4 s5 s6 s7:Option Slot) (x s0 t0 u0 s t u:Int) (y v1 v2:PV) (h0:nth l 0 = some (.tup [.int s0,.int t0,.int u0])) (hx:nth l x = some (.tup [.int s,.int t,.int u])) (hy:slcop a (some (.int u0)) (some (.int t)) = some y) (hC:C 2 [.val y] = some (.bool true))
  (hsx:small x = true) (hl1:slcop (.list l) (some (.int 1)) (some (.int x)) = some (.list l1)) (hv1:C 12 [.val a,.val (.list l1)] = some v1) (hl2:slcop (.list l) (some (.int (x + 1))) none = some (.list l2)) (hv2:C 12 [.val a,.val (.list l2)] = some v2) :
  ∃ e',loop12 C (n + 20) (.int x) [some (.val a),some (.val (.list l)),s2,s3,s4,s5,s6,s7] = some (.ret (if s.fmod 2 = 0 then .tup [.int s,v1,v2] else .tup [.int s,v2,v1]),e'):=by
 show ∃ e',exB C (n + 20) [some (.val a),some (.val (.list l)),some (.val (.int x)),s3,s4,s5,s6,s7] body12 = some (_,e')
 by_cases h:s.fmod 2 = 0
 ·rw [if_pos h]
  exact ⟨_,xM (xI1 (xTv (xK1 (xS rfl (xO (xX (xVi rfl rfl h0) rfl rfl)) (xO (xX (xVi rfl rfl hx) rfl rfl)) hy) hC)) (xN (xA (xK2 rfl (xS rfl (xO rfl) (xO rfl) hl1) hv1)) (xN (xA (xK2 rfl (xS rfl (xO (xB rfl rfl (sm1 hsx))) rfl hl2) hv2)) (xM (xI1 (xT (xB (x12 rfl rfl hx) rfl rfl) rfl (sT h)) (xM (xR (xU (xL (x12 rfl rfl hx) (xL rfl (xL rfl rfl)))))))))))⟩
 ·rw [if_neg h]
  exact ⟨_,xM (xI1 (xTv (xK1 (xS rfl (xO (xX (xVi rfl rfl h0) rfl rfl)) (xO (xX (xVi rfl rfl hx) rfl rfl)) hy) hC)) (xN (xA (xK2 rfl (xS rfl (xO rfl) (xO rfl) hl1) hv1)) (xN (xA (xK2 rfl (xS rfl (xO (xB rfl rfl (sm1 hsx))) rfl hl2) hv2)) (xN (xI0 (xT (xB (x12 rfl rfl hx) rfl rfl) rfl (sF h)) rfl) (xM (xR (xU (xL (x12 rfl rfl hx) (xL rfl (xL rfl rfl))))))))))⟩
end
section
theorem slc_lfrom (l:List PV) {j:Int} {k:Nat} (hb:bnd (.int j) = some k) (hl:lim l.length = true):slcop (.list l) (some (.int j)) none = some (.list (l.drop k)):=by
 show (bnd (.int j)).bind (fun a => if lim l.length = true then some (PV.list (l.drop a)) else none) = _
 rw [hb]
 show (if lim l.length = true then _ else _) = _
 rw [if_pos hl]
theorem slc_lboth (l:List PV) {i j:Int} {a b:Nat} (hi:bnd (.int i) = some a) (hj:bnd (.int j) = some b) (hl:lim l.length = true):slcop (.list l) (some (.int i)) (some (.int j)) = some (.list (cut l a b)):=by
 show (bnd (.int i)).bind (fun a => if lim l.length = true then (bnd (.int j)).bind (fun b => some (PV.list (cut l a b))) else none) = _
 rw [hi,hj]
 show (if lim l.length = true then _ else _) = _
 rw [if_pos hl];rfl
theorem cut_mid {α:Type} (A B X:List α):cut (A ++ (B ++ X)) A.length (A.length + B.length) = B:=by
 unfold cut
 rw [← List.append_assoc,show A.length + B.length = (A ++ B).length by rw [List.length_append],List.take_left,List.drop_left]
theorem fn12_body:fn12.body = [.asg 3 c12,s12_1,.for1 2 (.val (.var 3)) body12,.ret (.tup [])]:=rfl
theorem r12_2 (C:Calls) (n:Nat) (s0 s1 s2 s4 s5 s6 s7:Option Slot) (l:List PV):exS C (n + 30) [s0,s1,s2,some (.val (.list l)),s4,s5,s6,s7] (.for1 2 (.val (.var 3)) body12) = loopF (loop12 C (n + 29)) l [s0,s1,s2,some (.val (.list l)),s4,s5,s6,s7]:=rfl
theorem jn_none:∀ (r:Row) (i:Nat),(∀ q ∈ r,opB q.1 = false) → jn i r = []
 | [],_,_ => rfl
 | q :: r,i,h => by
  show (if opB q.1 then i :: jn (i + 1) r else jn (i + 1) r) = []
  rw [h q (.head _)]
  exact jn_none r (i + 1) fun x hx => h x (.tail _ hx)
theorem rws_lets:∀ (l:List Nat) (p:Nat),(∀ q ∈ rws p (l.map fun c => Pc.ch (256 + c) [c]),opB q.1 = false ∧ 256 ≤ q.1) ∧ (rws p (l.map fun c => Pc.ch (256 + c) [c])).map (fun q => q.1 - 256) = l
 | [],p => ⟨fun q h => (nomatch h),rfl⟩
 | c :: r,p => by
  obtain ⟨h1,h2⟩:=rws_lets r (p + 1)
  have e:rws p ((c :: r).map fun c => Pc.ch (256 + c) [c]) = (256 + c,p,p + 1) :: rws (p + 1) (r.map fun c => Pc.ch (256 + c) [c]):=rfl
  rw [e]
  refine ⟨fun q hq => ?_,?_⟩
  ·rcases List.mem_cons.mp hq with rfl | hq
   ·refine ⟨?_,by show 256 ≤ 256 + c;lia⟩
    show opB (256 + c) = false
    cases h:opB (256 + c) with
    | false => rfl
    | true => have:=opB_of h;lia
   ·exact h1 q hq
  ·rw [List.map_cons,h2]
   show (256 + c - 256) :: r = c :: r
   rw [Nat.add_sub_cancel_left]
theorem loop12_no (C:Calls) (n:Nat) (a:PV) (l:List PV) (s3 s4 s5 s6 s7:Option Slot):∀ (ks:List Nat) (s2:Option Slot),(∀ k ∈ ks,∀ s2,loop12 C n (.int (k:Int)) [some (.val a),some (.val (.list l)),s2,s3,s4,s5,s6,s7] = some (.next,[some (.val a),some (.val (.list l)),some (.val (.int (k:Int))),s3,s4,s5,s6,s7])) →
  ∃ s2',loopF (loop12 C n) (ks.map fun k:Nat => .int (k:Int)) [some (.val a),some (.val (.list l)),s2,s3,s4,s5,s6,s7] = some (.next,[some (.val a),some (.val (.list l)),s2',s3,s4,s5,s6,s7])
 | [],s2,_ => ⟨s2,rfl⟩
 | k :: r,s2,h => by
  rw [List.map_cons,loopF_c,h k (.head _) s2]
  exact loop12_no C n a l s3 s4 s5 s6 s7 r _ fun x hx => h x (.tail _ hx)
theorem rws_len:∀ (ps:List Pc) (p:Nat),(rws p ps).length ≤ ps.length
 | [],_ => Nat.le_refl _
 | .sk s :: r,p => Nat.le_succ_of_le (rws_len r _)
 | .ch s w :: r,p => Nat.succ_le_succ (rws_len r _)
theorem rws_dress (k:Fin 6) (p:Nat):rws p (dressP k) = []:=fin6 (P:=fun k => rws p (dressP k) = []) rfl rfl rfl rfl rfl rfl k
theorem bnd_lt {k:Nat} (h:k < 200000):bnd (.int (k:Int)) = some k:=bnd_nat k (small_nat (k:=k) (by first | rfl | lia) (by lia))
theorem fmod_two (s:Nat):((s:Int).fmod 2 = 0) ↔ s % 2 = 0:=by
 rw [Int.fmod_eq_emod_of_nonneg _ (by lia)];lia
theorem told_node (o:Fin 8) (k:Fin 6) (a b:F):told (.node o k a b) = if (symOf o:Int).fmod 2 = 0 then .tup [.int (symOf o:Nat),told a,told b] else .tup [.int (symOf o:Nat),told b,told a]:=by
 rw [told_c]
 by_cases h:symOf o % 2 = 0
 ·rw [if_pos h,if_pos ((fmod_two _).mpr h)]
 ·rw [if_neg h,if_neg (fun q => h ((fmod_two _).mp q))]
theorem read_leaf (i:Fin 10) (d p:Nat) {T:Row} (hT:∀ q ∈ T,q.1 = 8) (hl2:(pcs (.leaf i)).length + T.length < 80000) (t:List Nat):callN FT (d + 2) 12 [.val (.str t),.val (.list (rowV (rws p (pcs (.leaf i)) ++ T)))] = some (told (.leaf i)):=by
 rw [callN_eq (d + 1) 12 _ rfl]
 have h1:∀ q ∈ rws p (pcs (.leaf i)),opB q.1 = false ∧ 256 ≤ q.1:=(rws_lets (heard i) p).1
 have h2:(rws p (pcs (.leaf i))).map (fun q => q.1 - 256) = heard i:=(rws_lets (heard i) p).2
 have h0:=rws_len (pcs (.leaf i)) p
 show out (exB (callN FT (d + 1)) 60 [some (.val (.str t)),some (.val (.list (rowV (rws p (pcs (.leaf i)) ++ T)))),none,none,none,none,none,none] fn12.body) = _
 rw [fn12_body]
 have hin:∀ q ∈ rws p (pcs (.leaf i)) ++ T,opB q.1 = false ∧ q.1 < 100000:=fun q hq => by
  rcases List.mem_append.mp hq with h | h
  ·refine ⟨(h1 q h).1,?_⟩
   have:q.1 - 256 ∈ heard i:=by rw [← h2];exact List.mem_map_of_mem (f:=fun q:Nat × Nat × Nat => q.1 - 256) h
   have:q.1 - 256 < 1000:=(show ∀ i:Fin 10,∀ c ∈ heard i,c < 1000 by decide) i _ this
   exact Nat.lt_of_le_of_lt (Nat.le_add_of_sub_le (Nat.le_of_lt this)) (by decide)
  ·rw [hT q h];decide
 have e1:namesOf (rws p (pcs (.leaf i)) ++ T) = heard i:=by
  unfold namesOf
  rw [List.filter_append,List.filter_eq_self.mpr fun q hq => decide_eq_true (h1 q hq).2,List.filter_eq_nil_iff.mpr fun q hq => by rw [hT q hq];decide,List.append_nil]
  exact h2
 have hRl:(rws p (pcs (.leaf i)) ++ T).length < 90000:=by
  rw [List.length_append]
  exact Nat.lt_of_le_of_lt (Nat.add_le_add_right h0 _) (Nat.lt_trans hl2 (by decide))
 generalize rws p (pcs (.leaf i)) ++ T = R at hin e1 hRl
 have b0:=r12_0 (callN FT (d + 1)) (fun s => call8 d s) 29 (.str t) R hRl
 rw [jn_none R 0 fun q h => (hin q h).1,List.map_nil] at b0
 refine (congrArg out (exB_next b0)).trans ?_
 obtain ⟨e',b1⟩:=r12_1y (callN FT (d + 1)) (fun s => call9 d s) 28 (.str t) R hRl fun q h => (hin q h).2
 rw [exB_ret b1]
 show some (PV.str (namesOf R)) = some (.str (heard i))
 rw [e1]
theorem row_at {q0 x:Nat × Nat × Nat} {RA X:Row} (hl:1 + RA.length < 100000):(∀ j q,RA[j]? = some q → nth (rowV (q0 :: (RA ++ x :: X))) ((1 + j:Nat):Int) = some (rowOne q)) ∧ nth (rowV (q0 :: (RA ++ x :: X))) ((1 + RA.length:Nat):Int) = some (rowOne x) ∧
  cut (rowV (q0 :: (RA ++ x :: X))) 1 (1 + RA.length) = rowV RA ∧ (rowV (q0 :: (RA ++ x :: X))).drop (1 + RA.length + 1) = rowV X:=by
 have e:rowV (q0 :: (RA ++ x :: X)) = [rowOne q0] ++ (rowV RA ++ rowV (x :: X)):=by unfold rowV;rw [List.map_cons,List.map_append];rfl
 have hm:(rowV RA).length = RA.length:=by unfold rowV;rw [List.length_map]
 refine ⟨fun j q hq => ?_,?_,?_,?_⟩
 ·have hj:j < RA.length:=(List.getElem?_eq_some_iff.mp hq).1
  refine nth_nat (rowV_get ?_) (Nat.lt_trans (Nat.add_lt_add_left hj 1) hl)
  rw [Nat.add_comm 1 j,List.getElem?_cons_succ,List.getElem?_append_left hj,hq]
 ·refine nth_nat (rowV_get ?_) hl
  rw [Nat.add_comm 1 RA.length,List.getElem?_cons_succ,List.getElem?_append_right (Nat.le_refl _),Nat.sub_self]
  rfl
 ·rw [e]
  have:=cut_mid [rowOne q0] (rowV RA) (rowV (x :: X))
  rwa [hm] at this
 ·rw [e,show rowV (x :: X) = [rowOne x] ++ rowV X from rfl,← List.append_assoc,← List.append_assoc]
  have h:([rowOne q0] ++ rowV RA ++ [rowOne x]).length = 1 + RA.length + 1:=by rw [List.length_append,List.length_append,hm];rfl
  rw [← h,List.drop_left]
section
variable {t:List Nat} {R RA:Row} {p1 d:Nat} {a:F} (hRA:rws (p1 + 1) (pcs a) = RA) (hL:(pcs a).length < 80000) (ht:p1 + 1 + (flat (pcs a)).length < 80000) (htl:lim t.length = true)
 (hcut:∀ P1 X,pcs a = P1 ++ X → cut t (p1 + 1) (p1 + 1 + (flat P1).length) = flat P1) (g0:nth (rowV R) 0 = some (.tup [.int (7:Nat),.int (p1:Nat),.int ((p1 + 1:Nat):Int)]))
include hL ht htl hcut in
theorem read_cut {P1 X:List Pc} (h:pcs a = P1 ++ X):callN FT (d + 2) 2 [.val (.str (flat P1))] = some (.bool (decide (walk 0 P1 = some 0))) ∧ slcop (.str t) (some (.int ((p1 + 1:Nat):Int))) (some (.int ((p1 + 1 + (flat P1).length:Nat):Int))) = some (.str (flat P1)):=by
 have e1:(flat P1).length ≤ (flat (pcs a)).length:=by rw [h,flat_app,List.length_append];exact Nat.le_add_right _ _
 have e2:P1.length ≤ (pcs a).length:=by rw [h,List.length_append];exact Nat.le_add_right _ _
 have e3:=Nat.lt_of_le_of_lt (Nat.add_le_add_left e1 (p1 + 1)) ht
 refine ⟨check_run d (fun x hx => fit_pcs a x (by rw [h];exact List.mem_append_left _ hx)) (Nat.lt_of_le_of_lt (Nat.le_add_left _ (p1 + 1)) (Nat.lt_trans e3 (by decide))) (Nat.lt_of_le_of_lt e2 (Nat.lt_trans hL (by decide))),?_⟩
 have hy:=slc_both t (bnd_lt (Nat.lt_of_le_of_lt (Nat.le_add_right (p1 + 1) (flat P1).length) (Nat.lt_trans e3 (by decide)))) (bnd_lt (Nat.lt_trans e3 (by decide))) htl
 rw [hcut P1 _ h] at hy
 exact hy
include hRA hL ht htl hcut g0 in
theorem read_no (s3:Option Slot) (gk:∀ j q,RA[j]? = some q → nth (rowV R) ((1 + j:Nat):Int) = some (rowOne q)) (kk:Nat) (hkk:kk ∈ jn 1 RA) (s2:Option Slot):loop12 (callN FT (d + 2)) (36 + 20) (.int (kk:Int)) [some (.val (.str t)),some (.val (.list (rowV R))),s2,s3,none,none,none,none] = some (.next,[some (.val (.str t)),some (.val (.list (rowV R))),some (.val (.int (kk:Int))),s3,none,none,none,none]):=by
 rw [← hRA] at hkk
 obtain ⟨P1,s,w,P2,h1,h2,h3,h4⟩:=jn_mem (pcs a) (p1 + 1) 1 kk hkk
 rw [hRA] at h4
 obtain ⟨j,rfl⟩:=Nat.exists_eq_add_of_le h3
 rw [Nat.add_sub_cancel_left] at h4
 obtain ⟨hck,hy⟩:=read_cut (d:=d) hL ht htl hcut h1
 obtain ⟨d',u1,u2⟩:=(at_of' h2 h1).up 0
 rw [u1,decide_eq_false (fun q => Nat.ne_of_gt u2 (Option.some.inj q))] at hck
 exact turn12_no (callN FT (d + 2)) 36 (.str t) (rowV R) s2 _ _ _ _ _ _ _ _ _ _ _ _ _ g0 (gk j _ h4) hy hck
end
theorem read_loop {t:List Nat} {RA X:Row} {o:Fin 8} {k:Fin 6} {p1 p2 w d:Nat} {a b:F} (hRA:rws (p1 + 1) (pcs a) = RA) (hp2:p1 + 1 + (flat (pcs a)).length = p2) (hL:(pcs a).length < 80000) (ht:p2 < 80000) (htl:lim t.length = true)
  (hcut:∀ P1 X,pcs a = P1 ++ X → cut t (p1 + 1) (p1 + 1 + (flat P1).length) = flat P1) (hRl:((7,p1,p1 + 1) :: (RA ++ (symOf o,p2,w) :: X):Row).length < 90000)
  (IHa:callN FT (d + 2) 12 [.val (.str t),.val (.list (rowV RA))] = some (told a)) (IHb:callN FT (d + 2) 12 [.val (.str t),.val (.list (rowV X))] = some (told b)) :
  callN FT (d + 3) 12 [.val (.str t),.val (.list (rowV ((7,p1,p1 + 1) :: (RA ++ (symOf o,p2,w) :: X))))] = some (told (.node o k a b)):=by
 have hA:1 + RA.length < 80000 + 1:=by rw [Nat.add_comm];exact Nat.succ_lt_succ (Nat.lt_of_le_of_lt (hRA ▸ rws_len _ _) hL)
 obtain ⟨gk,gm,ha,hb⟩:=row_at (q0:=(7,p1,p1 + 1)) (x:=(symOf o,p2,w)) (X:=X) (Nat.lt_trans hA (by decide))
 have g0:nth (rowV ((7,p1,p1 + 1) :: (RA ++ (symOf o,p2,w) :: X))) 0 = some (.tup [.int (7:Nat),.int (p1:Nat),.int ((p1 + 1:Nat):Int)]):=rfl
 have hjn:jn 0 ((7,p1,p1 + 1) :: (RA ++ (symOf o,p2,w) :: X)) = jn 1 RA ++ (1 + RA.length) :: jn (1 + RA.length + 1) X:=by
  show (if opB 7 then _ else jn 1 (RA ++ (symOf o,p2,w) :: X)) = _
  rw [if_neg (by decide),jn_app]
  show jn 1 RA ++ (if opB (symOf o) then _ else _) = _
  rw [if_pos (op_sym o)]
 have hRVl:lim (rowV ((7,p1,p1 + 1) :: (RA ++ (symOf o,p2,w) :: X))).length = true:=by unfold rowV;rw [List.length_map];exact lim_of (Nat.lt_trans hRl (by decide))
 generalize (7,p1,p1 + 1) :: (RA ++ (symOf o,p2,w) :: X) = R at *
 rw [callN_eq (d + 2) 12 _ rfl]
 show out (exB (callN FT (d + 2)) 60 [some (.val (.str t)),some (.val (.list (rowV R))),none,none,none,none,none,none] fn12.body) = _
 rw [fn12_body]
 have b0:=r12_0 (callN FT (d + 2)) (fun s => call8 (d + 1) s) 29 (.str t) R hRl
 rw [hjn] at b0
 refine (congrArg out (exB_next b0)).trans ?_
 rw [exB_next (r12_1n (callN FT (d + 2)) 48 _ _ _ _ _ _ _ _ (by simp))]
 have ht':p1 + 1 + (flat (pcs a)).length < 80000:=hp2 ▸ ht
 obtain ⟨s2,c1⟩:=loop12_no (callN FT (d + 2)) (36 + 20) (.str t) (rowV R) (some (.val (.list ((jn 1 RA ++ (1 + RA.length) :: jn (1 + RA.length + 1) X).map fun k:Nat => .int (k:Int))))) none none none none (jn 1 RA) none (read_no hRA hL ht' htl hcut g0 _ gk)
 obtain ⟨hck,hy⟩:=read_cut (d:=d) hL ht' htl hcut (List.append_nil _).symm
 rw [show walk 0 (pcs a) = some 0 by have:=walk_pcs a 0 [];rw [List.append_nil] at this;rw [this];rfl,decide_eq_true rfl] at hck
 rw [hp2] at hy
 have hl1:=slc_lboth (rowV R) (i:=1) (j:=((1 + RA.length:Nat):Int)) (a:=1) (b:=1 + RA.length) rfl (bnd_lt (Nat.lt_trans hA (by decide))) hRVl
 have hl2:=slc_lfrom (rowV R) (j:=((1 + RA.length:Nat):Int) + 1) (k:=1 + RA.length + 1) (bnd_lt (k:=1 + RA.length + 1) (Nat.lt_trans (Nat.succ_lt_succ hA) (by decide))) hRVl
 rw [ha] at hl1
 rw [hb] at hl2
 have hyes:∃ e',loop12 (callN FT (d + 2)) (36 + 20) (.int ((1 + RA.length:Nat):Int)) [some (.val (.str t)),some (.val (.list (rowV R))),s2,(some (.val (.list ((jn 1 RA ++ (1 + RA.length) :: jn (1 + RA.length + 1) X).map fun k:Nat => .int (k:Int))))),none,none,none,none] = some (.ret (told (.node o k a b)),e'):=by
  rw [told_node]
  exact turn12_yes (callN FT (d + 2)) 36 (.str t) (rowV R) _ _ s2 _ none none none none _ _ _ _ _ _ _ _ _ _ g0 gm hy hck (small_nat (k:=1 + RA.length) rfl (Nat.lt_trans hA (by decide))) hl1 IHa hl2 IHb
 obtain ⟨e',hyes⟩:=hyes
 have b2:=r12_2 (callN FT (d + 2)) 27 (some (.val (.str t))) (some (.val (.list (rowV R)))) none none none none none ((jn 1 RA ++ (1 + RA.length) :: jn (1 + RA.length + 1) X).map fun k:Nat => .int (k:Int))
 have b4:=loopF_app _ (((1 + RA.length) :: jn (1 + RA.length + 1) X).map fun k:Nat => .int (k:Int)) _ _ c1
 rw [← List.map_append,List.map_cons (l:=jn (1 + RA.length + 1) X),loopF_c,hyes] at b4
 rw [exB_ret (b2.trans b4)]
 rfl
theorem read_run (f:F):∀ (d:Nat) (pre post:List Pc) (T:Row),f.ops + 3 ≤ d → (∀ q ∈ T,q.1 = 8) → (flat (pre ++ (pcs f ++ post))).length < 80000 → (pcs f).length + T.length < 80000 →
  callN FT d 12 [.val (.str (flat (pre ++ (pcs f ++ post)))),.val (.list (rowV (rws (flat pre).length (pcs f) ++ T)))] = some (told f):=by
 induction f with
 | leaf i =>
  intro d pre post T hd hT hl hl2
  obtain ⟨d,rfl⟩:=Nat.exists_eq_add_of_le' (Nat.le_trans (by decide:2 ≤ 3) (Nat.le_trans (Nat.le_add_left 3 _) hd))
  exact read_leaf i d _ hT hl2 _
 | node o k a b iha ihb =>
  intro d pre post T hd hT hl hl2
  have ho:(F.node o k a b).ops = a.ops + b.ops + 1:=rfl
  obtain ⟨d,rfl⟩:=Nat.exists_eq_add_of_le' (Nat.le_trans (Nat.le_add_left 3 _) hd)
  have hd':=Nat.le_of_add_le_add_right hd
  rw [ho] at hd'
  have hp:pcs (.node o k a b) = dressP k ++ lp :: (pcs a ++ opP o :: (pcs b ++ [rp])):=rfl
  generalize hp1:(flat pre).length + (flat (dressP k)).length = p1
  generalize hp2:p1 + 1 + (flat (pcs a)).length = p2
  generalize hT':(8,p2 + (wordOf o).length + (flat (pcs b)).length,p2 + (wordOf o).length + (flat (pcs b)).length + 1) :: T = T'
  have hR:rws (flat pre).length (pcs (.node o k a b)) ++ T = (7,p1,p1 + 1) :: (rws (p1 + 1) (pcs a) ++ (symOf o,p2,p2 + (wordOf o).length) :: (rws (p2 + (wordOf o).length) (pcs b) ++ T')):=by
   rw [hp,rws_app,rws_dress,List.nil_append,hp1]
   show (7,p1,p1 + 1) :: rws (p1 + 1) (pcs a ++ opP o :: (pcs b ++ [rp])) ++ T = _
   rw [rws_app,hp2]
   show (7,p1,p1 + 1) :: (rws (p1 + 1) (pcs a) ++ (symOf o,p2,p2 + (wordOf o).length) :: rws (p2 + (wordOf o).length) (pcs b ++ [rp])) ++ T = _
   rw [rws_app,← hT']
   simp only [List.cons_append,List.append_assoc]
   rfl
  have hTT:∀ q ∈ T',q.1 = 8:=fun q hq => by
   rw [← hT'] at hq
   rcases List.mem_cons.mp hq with rfl | h
   ·rfl
   ·exact hT q h
  have hlenp:(pcs (.node o k a b)).length = (dressP k).length + ((pcs a).length + ((pcs b).length + 1 + 1) + 1):=by
   rw [hp];simp only [List.length_append,List.length_cons,List.length_nil]
  have hTl:T'.length = T.length + 1:=by rw [← hT'];rfl
  have hRl:(rws (flat pre).length (pcs (.node o k a b)) ++ T).length < 90000:=by
   rw [List.length_append]
   exact Nat.lt_of_le_of_lt (Nat.add_le_add_right (rws_len _ _) _) (Nat.lt_trans hl2 (by decide))
  have hla:(pcs a).length < 80000 ∧ (pcs b).length + T'.length < 80000:=by
   clear hR hRl hl iha ihb hTT hT hT';lia
  have htx:pre ++ (pcs (.node o k a b) ++ post) = (pre ++ (dressP k ++ [lp])) ++ (pcs a ++ (opP o :: (pcs b ++ rp :: post))):=by rw [hp];simp
  have htx2:pre ++ (pcs (.node o k a b) ++ post) = (pre ++ (dressP k ++ lp :: (pcs a ++ [opP o]))) ++ (pcs b ++ (rp :: post)):=by rw [hp];simp
  have hpre:(flat (pre ++ (dressP k ++ [lp]))).length = p1 + 1:=by
   rw [flat_app,flat_app,List.length_append,List.length_append,← hp1,← Nat.add_assoc];rfl
  have hpre2:(flat (pre ++ (dressP k ++ lp :: (pcs a ++ [opP o])))).length = p2 + (wordOf o).length:=by
   have e:pre ++ (dressP k ++ lp :: (pcs a ++ [opP o])) = (pre ++ (dressP k ++ [lp])) ++ (pcs a ++ [opP o]):=by simp
   rw [e,flat_app,flat_app (pcs a),List.length_append,List.length_append,hpre,← hp2,flat_one,Nat.add_assoc (p1 + 1)]
   rfl
  have hda:a.ops + 3 ≤ d + 2 ∧ b.ops + 3 ≤ d + 2:=by clear hR hRl hl hla iha ihb hTT hT hT';lia
  have IHa:=iha (d + 2) (pre ++ (dressP k ++ [lp])) (opP o :: (pcs b ++ rp :: post)) [] hda.1 (fun q h => nomatch h) (by rw [← htx];exact hl) hla.1
  have IHb:=ihb (d + 2) (pre ++ (dressP k ++ lp :: (pcs a ++ [opP o]))) (rp :: post) T' hda.2 hTT (by rw [← htx2];exact hl) hla.2
  rw [← htx,hpre,List.append_nil] at IHa
  rw [← htx2,hpre2] at IHb
  have htl:(flat (pre ++ (pcs (.node o k a b) ++ post))).length = p2 + (flat (opP o :: (pcs b ++ rp :: post))).length:=by
   rw [htx,flat_app,flat_app (pcs a),List.length_append,List.length_append,hpre,← Nat.add_assoc,hp2]
  have hcut:∀ (P1 X:List Pc),pcs a = P1 ++ X → cut (flat (pre ++ (pcs (.node o k a b) ++ post))) (p1 + 1) (p1 + 1 + (flat P1).length) = flat P1:=fun P1 X e => by
   rw [htx,flat_app,flat_app (pcs a),e,flat_app P1,← hpre,List.append_assoc]
   exact cut_mid _ _ _
  rw [hR] at hRl ⊢
  exact read_loop rfl hp2 hla.1 (Nat.lt_of_le_of_lt (by rw [htl];exact Nat.le_add_right _ _) hl) (lim_of (Nat.lt_trans hl (by decide))) hcut hRl IHa IHb
end
section
noncomputable def sgL:List Nat:=[65,122,223,383,64257,64259,64262,119808,120763,8470]
noncomputable def sg (i:Fin 10):Nat:=sgL.getD i.1 0
noncomputable def hidL:List Nat:=[173,847,8203,8288,65024,65279]
noncomputable def hid (d:Fin 6):Nat:=hidL.getD d.1 0
noncomputable def dressRL:List (List Nat):=[[],[34,40,34],[34,92,34,41,34],[92,40],[92,65024,41],[92,92]]
noncomputable def dressR (d:Fin 6):List Nat:=dressRL.getD d.1 []
noncomputable def raw:F → List Nat
 | .leaf i => [sg i]
 | .node o d a b => dressR d ++ [40] ++ raw a ++ (wordOf o).take 1 ++ [hid d] ++ (wordOf o).drop 1 ++ raw b ++ [41]
noncomputable def rowF (f:F):PV:=.tup [told f,.str (raw f)]
noncomputable def wordsPV:List PV:=opW.map .str
noncomputable def symsPV:List PV:=opS.map fun k:Nat => .int (k:Int)
noncomputable def signsPV:List PV:=sgL.map fun k:Nat => .int (k:Int)
noncomputable def heardPV:List PV:=heardL.map .str
noncomputable def hidPV:List PV:=hidL.map fun k:Nat => .int (k:Int)
noncomputable def bodyA:List S:=match fn10.body with | [_,_,_,_,_,_,.for1 _ _ b,_,_] => b | _ => []
noncomputable def bodyB:List S:=match fn10.body with | [_,_,_,_,_,_,_,.for1 _ _ b,_] => b | _ => []
noncomputable def loopA (C:Calls) (n:Nat):PV → Ev → Option (Fl × Ev):=fun v e => exB C n (setS e 7 (.val v)) bodyA
noncomputable def loopB (C:Calls) (n:Nat):PV → Ev → Option (Fl × Ev):=fun v e => exB C n (setS e 9 (.val v)) bodyB
theorem fn10_body:fn10.body = [.asgL 1 (opW.map .str),.asgL 2 (opS.map fun k:Nat => .int (k:Int)),.asgL 3 (sgL.map fun k:Nat => .int (k:Int)),.asgL 4 (heardL.map .str),.asgL 5 (hidL.map fun k:Nat => .int (k:Int)),.asgL 6 [],
 .for1 7 (.range (.bin .add (.bi .len [(.var 0)]) (.int (1)))) bodyA,.for1 9 (.val (.var 0)) bodyB,.ret (.idxv 6 (.int (0)))]:=rfl
noncomputable def dressesPV (h:List Nat):List PV:=[.str [],.str [34,40,34],.str [34,92,34,41,34],.str [92,40],.str ([92] ++ h ++ [41]),.str [92,92]]
theorem add_str {a b:List Nat} (h:a.length + b.length < 100000):binop .add (.str a) (.str b) = some (.str (a ++ b)):=by
 show (if lim (a.length + b.length) = true then _ else _) = _
 rw [if_pos (lim_of h)]
theorem add_list {a b:List PV} (h:a.length + b.length < 100000):binop .add (.list a) (.list b) = some (.list (a ++ b)):=by
 show (if lim (a.length + b.length) = true then _ else _) = _
 rw [if_pos (lim_of h)]
theorem ev_add {C:Calls} {n:Nat} {e e1 e2:Ev} {a b:E} {x y z:PV} (h1:evE C n e a = some (x,e1)) (h2:evE C n e1 b = some (y,e2)) (h3:binop .add x y = some z):evE C (n + 1) e (.bin .add a b) = some (z,e2):=by
 show (evE C n e a).bind _ = _
 rw [h1]
 show (evE C n e1 b).bind _ = _
 rw [h2]
 show (binop .add x y).bind _ = _
 rw [h3];rfl
theorem ev_slc {C:Calls} {n:Nat} {e e1 e2 e3:Ev} {a:E} {lo hi:Option E} {x z:PV} {l h:Option PV} (h1:evE C n e a = some (x,e1)) (h2:evO C n e1 lo = some (l,e2)) (h3:evO C n e2 hi = some (h,e3)) (h4:slcop x l h = some z):evE C (n + 1) e (.slc a lo hi) = some (z,e3):=by
 show (evE C n e a).bind _ = _
 rw [h1]
 show (evO C n e1 lo).bind _ = _
 rw [h2]
 show (evO C n e2 hi).bind _ = _
 rw [h3]
 show (slcop x l h).bind _ = _
 rw [h4];rfl
theorem slc_upto (l:List Nat) {j:Int} {b:Nat} (hj:bnd (.int j) = some b) (hl:lim l.length = true):slcop (.str l) none (some (.int j)) = some (.str (cut l 0 b)):=by
 show (if lim l.length = true then (bnd (.int j)).bind (fun b => some (PV.str (cut l 0 b))) else none) = _
 rw [if_pos hl,hj];rfl
theorem slc_lupto (l:List PV) {j:Int} {b:Nat} (hj:bnd (.int j) = some b) (hl:lim l.length = true):slcop (.list l) none (some (.int j)) = some (.list (cut l 0 b)):=by
 show (if lim l.length = true then (bnd (.int j)).bind (fun b => some (PV.list (cut l 0 b))) else none) = _
 rw [if_pos hl,hj];rfl
noncomputable def text18:E:=.bin .add (.bin .add (.bin .add (.bin .add (.bin .add (.bin .add (.bin .add (.var 17) (.str [40])) (.idxv 11 (.int (1)))) (.slc (.var 14) none (some (.int (1))))) (.var 15)) (.slc (.var 14) (some (.int (1))) none)) (.idxv 12 (.int (1)))) (.str [41])
noncomputable def stB (u:Nat → Option Slot):Ev:=[u 0,u 1,u 2,u 3,u 4,u 5,u 6,u 7,u 8,u 9,u 10,u 11,u 12,u 13,u 14,u 15,u 16,u 17,u 18,u 19]
noncomputable def upd (u:Nat → Option Slot) (i:Nat) (s:Slot):Nat → Option Slot:=fun j => if j = i then some s else u j
theorem stB_set {u:Nat → Option Slot} {i:Nat} {s:Slot} (h:i < 20):setS (stB u) i s = stB (upd u i s):=by
 have e:∀ v,stB v = (List.range 20).map v:=fun _ => rfl
 rw [e,e]
 refine List.ext_getElem (by rw [setS,List.length_set,List.length_map,List.length_map]) fun j h1 h2 => ?_
 rw [List.length_map,List.length_range] at h2
 simp only [setS,List.getElem_set,List.getElem_map,List.getElem_range,upd]
 by_cases q:i = j
 ·rw [if_pos q,if_pos q.symm]
 ·rw [if_neg q,if_neg (Ne.symm q)]
theorem vS {C:Calls} {n i:Nat} {e:Ev} {s:S} {u:Nat → Option Slot} {v:Slot} (hi:i < 20) (h:exS C n e s = some (.next,setS (stB u) i v)):exS C n e s = some (.next,stB (upd u i v)):=stB_set hi ▸ h
theorem fd_ok {x a:Int} (hs:small x = true) (ha:small a = true) (h0:decide (0 < a) = true):binop .fdiv (.int x) (.int a) = some (.int (x.fdiv a)):=if_pos (by rw [hs,ha,h0];rfl)
theorem sub_ok {x a:Int} (hs:small x = true) (ha:small a = true):binop .sub (.int x) (.int a) = some (.int (x - a)):=if_pos (by rw [hs,ha];rfl)
theorem sm_ok {x a:Int} (hs:small x = true) (ha:small a = true):binop .add (.int x) (.int a) = some (.int (x + a)):=if_pos (by rw [hs,ha];rfl)
theorem mod_ok {x a m:Int} (h0:decide (0 < a) = true) (hm:x.fmod a = m):binop .mod (.int x) (.int a) = some (.int m):=hm ▸ if_pos h0
section
variable {C:Calls} {n:Nat} {u:Nat → Option Slot} {l rows sl hl:List PV} {k x m L sgn:Int} {v v' h x':PV}
theorem turnA (h0:u 0 = some (.val (.list l))) (h3:u 3 = some (.ownL sl)) (h4:u 4 = some (.ownL hl)) (h6:u 6 = some (.ownL rows)) (hL:biop .len [.list l] = some (.int L)) (hL0:0 < L) (hn:nth l (k.fmod L) = some (.int x)) (hx:small x = true) (hk:small k = true) (hq:small (x.fdiv 2880) = true)
  (hm:(x.fdiv 2880 + k).fmod 10 = m) (hh:nth hl m = some h) (hs:nth sl m = some (.int sgn)) (hc:biop .chr [.int sgn] = some v) (hr:lim rows.length = true) :
  loopA C (n + 20) (.int k) (stB u) = some (.next,stB (upd (upd (upd u 7 (.val (.int k))) 8 (.val (.int m))) 6 (.ownL (rows ++ [.tup [h,v]])))):=by
 refine (show exB C (n + 20) (stB (upd u 7 (.val (.int k)))) [.asg 8 (.bin .mod (.bin .add (.bin .fdiv (.idxv 0 (.bin .mod (.var 7) (.bi .len [.var 0]))) (.int 2880)) (.var 7)) (.int 10)),.app 6 (.tup [.idxv 4 (.var 8),.bi .chr [.idxv 3 (.var 8)]])] = _ from ?_)
 refine xN (e1:=stB (upd (upd u 7 (.val (.int k))) 8 (.val (.int m)))) (vS (by decide) (xA (xB (xB (xB (xVi (s:=.val (.list l)) h0 (xB (xV (x:=.int k) rfl) (xF (xL (xV (x:=.list l) h0) rfl) hL) (mod_ok (decide_eq_true hL0) rfl)) hn) rfl (fd_ok hx rfl rfl)) (xV (x:=.int k) rfl) (sm_ok hq hk)) rfl (mod_ok rfl hm)))) ?_
 exact xN (vS (by decide) (xP (xU (xL (xVi (s:=.ownL hl) h4 (xV (x:=.int m) rfl) hh) (xL (xF (xL (xVi (s:=.ownL sl) h3 (xV (x:=.int m) rfl) hs) rfl) hc) rfl))) h6 hr)) rfl
theorem rB_0 {s6:Slot} (h9:u 9 = some (.val (.int x))) (g6:u 6 = some s6) (h6:froz s6 = .list l) (hL:biop .len [.list l] = some (.int L)) (hs:small L = true) (hp:1 < L) (hm:x.fmod (L - 1) = m) :
  exS C (n + 10) (stB u) (.asg 10 (.bin .mod (.var 9) (.bin .sub (.bi .len [.var 6]) (.int 1)))) = some (.next,stB (upd (upd u 6 (.val (.list l))) 10 (.val (.int m)))):=by
 have:=xVf (C:=C) (n:=n + 5) (e:=stB u) (i:=6) g6
 rw [h6,stB_set (by decide)] at this
 exact vS (by decide) (xA (xB (xV (x:=.int x) h9) (xB (xF (xL this rfl) hL) rfl (sub_ok hs rfl)) (mod_ok (decide_eq_true (Int.sub_pos_of_lt hp)) hm)))
theorem rB_1 (h6:u 6 = some (.val (.list l))) (h10:u 10 = some (.val (.int m))) (hs:small m = true) (hu:nth l m = some v) (hv:nth l (m + 1) = some v') :
  exS C (n + 10) (stB u) (.unp [11,12] (.tup [(.idxv 6 (.var 10)),(.idxv 6 (.bin .add (.var 10) (.int (1))))])) = some (.next,stB (upd (upd u 11 (.val v)) 12 (.val v'))):=by
 have h:evE C (n + 9) (stB u) (.tup [(.idxv 6 (.var 10)),(.idxv 6 (.bin .add (.var 10) (.int (1))))]) = some (.tup [v,v'],stB u):=xU (xL (xVi (s:=.val (.list l)) h6 (xV (x:=.int m) h10) hu) (xL (xVi (s:=.val (.list l)) h6 (xB (xV (x:=.int m) h10) rfl (sm_ok hs rfl)) hv) rfl))
 rw [exS_unp2 h,stB_set (by decide),stB_set (by decide)]
theorem rB_2 (h2:u 2 = some (.ownL l)) (h9:u 9 = some (.val (.int x))) (hs:small x = true) (hm:(x.fdiv 60).fmod 8 = m) (hu:nth l m = some v) :
  exS C (n + 10) (stB u) (.asg 13 (.idxv 2 (.bin .mod (.bin .fdiv (.var 9) (.int (60))) (.int (8))))) = some (.next,stB (upd u 13 (.val v))) :=
 vS (by decide) (xA (xVi (s:=.ownL l) h2 (xB (xB (xV (x:=.int x) h9) rfl (fd_ok hs rfl rfl)) rfl (mod_ok rfl hm)) hu))
theorem rB_3 (h1:u 1 = some (.ownL l)) (h9:u 9 = some (.val (.int x))) (hs:small x = true) (hm:(x.fdiv 60).fmod 8 = m) (hu:nth l m = some v) :
  exS C (n + 10) (stB u) (.asg 14 (.idxv 1 (.bin .mod (.bin .fdiv (.var 9) (.int (60))) (.int (8))))) = some (.next,stB (upd u 14 (.val v))) :=
 vS (by decide) (xA (xVi (s:=.ownL l) h1 (xB (xB (xV (x:=.int x) h9) rfl (fd_ok hs rfl rfl)) rfl (mod_ok rfl hm)) hu))
theorem rB_4 (h5:u 5 = some (.ownL l)) (h9:u 9 = some (.val (.int x))) (hs:small x = true) (hm:(x.fdiv 480).fmod 6 = m) (hu:nth l m = some v) (hv:biop .chr [v] = some v') :
  exS C (n + 10) (stB u) (.asg 15 (.bi .chr [(.idxv 5 (.bin .mod (.bin .fdiv (.var 9) (.int (480))) (.int (6))))])) = some (.next,stB (upd u 15 (.val v'))) :=
 vS (by decide) (xA (xF (xL (xVi (s:=.ownL l) h5 (xB (xB (xV (x:=.int x) h9) rfl (fd_ok hs rfl rfl)) rfl (mod_ok rfl hm)) hu) rfl) hv))
theorem rB_5 {w:List Nat} (h15:u 15 = some (.val (.str w))) (hw:w.length < 1000) :
  exS C (n + 20) (stB u) (.asgL 16 [(.str []),(.str [34,40,34]),(.str [34,92,34,41,34]),(.str [92,40]),(.bin .add (.bin .add (.str [92]) (.var 15)) (.str [41])),(.str [92,92])]) = some (.next,stB (upd u 16 (.ownL (dressesPV w)))) :=
 vS (by decide) (xAL (xL rfl (xL rfl (xL rfl (xL rfl (xL (xB (xB rfl (xV (x:=.str w) h15) (add_str (a:=[92]) (b:=w) (by rw [List.length_singleton];lia))) rfl (add_str (by rw [List.length_append,List.length_singleton,List.length_singleton];lia))) (xL rfl rfl)))))))
theorem rB_6 (h16:u 16 = some (.ownL l)) (h9:u 9 = some (.val (.int x))) (hs:small x = true) (hm:(x.fdiv 480).fmod 6 = m) (hu:nth l m = some v) :
  exS C (n + 10) (stB u) (.asg 17 (.idxv 16 (.bin .mod (.bin .fdiv (.var 9) (.int (480))) (.int (6))))) = some (.next,stB (upd u 17 (.val v))) :=
 vS (by decide) (xA (xVi (s:=.ownL l) h16 (xB (xB (xV (x:=.int x) h9) rfl (fd_ok hs rfl rfl)) rfl (mod_ok rfl hm)) hu))
theorem add_upto {a b:List Nat} {i j k:Nat} (ha:a.length ≤ i) (hb:b.length ≤ j) (hk:i + j ≤ k) (h:k < 100000):binop .add (.str a) (.str b) = some (.str (a ++ b)) ∧ (a ++ b).length ≤ k:=by
 have:a.length + b.length ≤ k:=Nat.le_trans (Nat.add_le_add ha hb) hk
 exact ⟨add_str (Nat.lt_of_le_of_lt this h),by rw [List.length_append];exact this⟩
theorem rB_7 {w hd dr a b:List Nat} (h11:u 11 = some (.val (.tup [v,.str a]))) (h12:u 12 = some (.val (.tup [v',.str b]))) (h14:u 14 = some (.val (.str w))) (h15:u 15 = some (.val (.str hd))) (h17:u 17 = some (.val (.str dr))) (hdr:dr.length ≤ 1000) (ha:a.length ≤ 1000) (hb:b.length ≤ 1000) (hw:w.length ≤ 1000) (hh:hd.length ≤ 1000) :
  exS C (n + 20) (stB u) (.asg 18 text18) = some (.next,stB (upd u 18 (.val (.str (dr ++ [40] ++ a ++ w.take 1 ++ hd ++ w.drop 1 ++ b ++ [41]))))):=by
 have hwl:lim w.length = true:=lim_of (Nat.lt_of_le_of_lt hw (by decide))
 have k1:=slc_upto w (j:=1) (b:=1) rfl hwl
 have k2:=slc_from w (j:=1) (k:=1) rfl hwl
 obtain ⟨a1,l1⟩:=add_upto (b:=[40]) (j:=1) (k:=1001) hdr (Nat.le_refl _) (by decide) (by decide)
 obtain ⟨a2,l2⟩:=add_upto (k:=2001) l1 ha (by decide) (by decide)
 obtain ⟨a3,l3⟩:=add_upto (b:=w.take 1) (k:=3001) l2 (Nat.le_trans (List.length_take_le' ..) hw) (by decide) (by decide)
 obtain ⟨a4,l4⟩:=add_upto (k:=4001) l3 hh (by decide) (by decide)
 obtain ⟨a5,l5⟩:=add_upto (b:=w.drop 1) (k:=5001) l4 (by rw [List.length_drop];exact Nat.le_trans (Nat.sub_le ..) hw) (by decide) (by decide)
 obtain ⟨a6,l6⟩:=add_upto (k:=6001) l5 hb (by decide) (by decide)
 obtain ⟨a7,_⟩:=add_upto (b:=[41]) (j:=1) (k:=6002) l6 (Nat.le_refl _) (by decide) (by decide)
 refine vS (by decide) (xA ?_)
 exact (xB (xB (xB (xB (xB (xB (xB (xV (x:=.str dr) h17) rfl a1) (xVi (s:=.val (.tup [v,.str a])) h11 rfl rfl) a2) (xS (xV (x:=.str w) h14) rfl (xO rfl) k1) a3) (xV (x:=.str hd) h15) a4) (xS (xV (x:=.str w) h14) (xO rfl) rfl k2) a5) (xVi (s:=.val (.tup [v',.str b])) h12 rfl rfl) a6) rfl a7)
theorem rB_8 {a b:PV} {s:Int} (h11:u 11 = some (.val (.tup [v,a]))) (h12:u 12 = some (.val (.tup [v',b]))) (h13:u 13 = some (.val (.int s))) :
  exS C (n + 10) (stB u) (.ifs (.cmp .eq (.bin .mod (.var 13) (.int (2))) (.int (0))) [(.asg 19 (.tup [(.var 13),(.idxv 11 (.int (0))),(.idxv 12 (.int (0)))]))] [(.asg 19 (.tup [(.var 13),(.idxv 12 (.int (0))),(.idxv 11 (.int (0)))]))]) =
   some (.next,stB (upd u 19 (.val (if s.fmod 2 = 0 then .tup [.int s,v,v'] else .tup [.int s,v',v])))):=by
 have t:∀ {b:Bool},decide (s.fmod 2 = 0) = b → evT C (n + 9) (stB u) (.cmp .eq (.bin .mod (.var 13) (.int 2)) (.int 0)) = some (b,stB u):=fun h => xT (xB (xV (x:=.int s) h13) rfl (mod_ok rfl rfl)) rfl (congrArg some h)
 have x1:∀ {m},evE C (m + 2) (stB u) (.idxv 11 (.int 0)) = some (v,stB u):=fun {m} => xVi (s:=.val (.tup [v,a])) h11 rfl rfl
 have x2:∀ {m},evE C (m + 2) (stB u) (.idxv 12 (.int 0)) = some (v',stB u):=fun {m} => xVi (s:=.val (.tup [v',b])) h12 rfl rfl
 by_cases h:s.fmod 2 = 0
 ·rw [if_pos h]
  exact xI1 (t (decide_eq_true h)) (xN (vS (by decide) (xA (xU (xL (xV (x:=.int s) h13) (xL x1 (xL x2 rfl)))))) rfl)
 ·rw [if_neg h]
  exact xI0 (t (decide_eq_false h)) (xN (vS (by decide) (xA (xU (xL (xV (x:=.int s) h13) (xL x2 (xL x1 rfl)))))) rfl)
theorem rB_9 {t:PV} {k:Nat} (h6:u 6 = some (.val (.list l))) (h10:u 10 = some (.val (.int m))) (h18:u 18 = some (.val x')) (h19:u 19 = some (.val t)) (hl:l.length ≤ 1000) (hm:bnd (.int m) = some k) (hsm:small m = true) (hm2:bnd (.int (m + 2)) = some (k + 2)) :
  exS C (n + 20) (stB u) (.asg 6 (.bin .add (.bin .add (.slc (.var 6) none (some (.var 10))) (.lst [(.tup [(.var 19),(.var 18)])])) (.slc (.var 6) (some (.bin .add (.var 10) (.int (2)))) none))) = some (.next,stB (upd u 6 (.val (.list (l.take k ++ [.tup [t,x']] ++ l.drop (k + 2)))))):=by
 have hlm:lim l.length = true:=lim_of (Nat.lt_of_le_of_lt hl (by decide))
 have k1:=slc_lupto l hm hlm
 have k2:=slc_lfrom l hm2 hlm
 have h1:(l.take k).length ≤ 1000:=Nat.le_trans (List.length_take_le' ..) hl
 have h2:(l.drop (k + 2)).length ≤ 1000:=by rw [List.length_drop];exact Nat.le_trans (Nat.sub_le ..) hl
 have h3:(l.take k ++ [PV.tup [t,x']]).length ≤ 1001:=by rw [List.length_append];exact Nat.add_le_add_right h1 1
 have a1:binop .add (.list (l.take k)) (.list [PV.tup [t,x']]) = _:=add_list (Nat.lt_of_le_of_lt (Nat.add_le_add_right h1 1) (by decide))
 have a2:=add_list (a:=l.take k ++ [PV.tup [t,x']]) (b:=l.drop (k + 2)) (Nat.lt_of_le_of_lt (Nat.add_le_add h3 h2) (by decide))
 refine vS (by decide) (xA ?_)
 exact (xB (xB (xS (xV (x:=.list l) h6) rfl (xO (xV (x:=.int m) h10)) k1) (xJ (xL (xU (xL (xV (x:=t) h19) (xL (xV (x:=x') h18) rfl))) rfl)) a1) (xS (xV (x:=.list l) h6) (xO (xB (xV (x:=.int m) h10) rfl (sm_ok hsm rfl))) rfl k2) a2)
end
theorem bodyB_eq:bodyB = [.asg 10 (.bin .mod (.var 9) (.bin .sub (.bi .len [(.var 6)]) (.int (1)))),.unp [11,12] (.tup [(.idxv 6 (.var 10)),(.idxv 6 (.bin .add (.var 10) (.int (1))))]),
 .asg 13 (.idxv 2 (.bin .mod (.bin .fdiv (.var 9) (.int (60))) (.int (8)))),.asg 14 (.idxv 1 (.bin .mod (.bin .fdiv (.var 9) (.int (60))) (.int (8)))),.asg 15 (.bi .chr [(.idxv 5 (.bin .mod (.bin .fdiv (.var 9) (.int (480))) (.int (6))))]),
 .asgL 16 [(.str []),(.str [34,40,34]),(.str [34,92,34,41,34]),(.str [92,40]),(.bin .add (.bin .add (.str [92]) (.var 15)) (.str [41])),(.str [92,92])],.asg 17 (.idxv 16 (.bin .mod (.bin .fdiv (.var 9) (.int (480))) (.int (6)))),.asg 18 text18,
 .ifs (.cmp .eq (.bin .mod (.var 13) (.int (2))) (.int (0))) [(.asg 19 (.tup [(.var 13),(.idxv 11 (.int (0))),(.idxv 12 (.int (0)))]))] [(.asg 19 (.tup [(.var 13),(.idxv 12 (.int (0))),(.idxv 11 (.int (0)))]))],
 .asg 6 (.bin .add (.bin .add (.slc (.var 6) none (some (.var 10))) (.lst [(.tup [(.var 19),(.var 18)])])) (.slc (.var 6) (some (.bin .add (.var 10) (.int (2)))) none))]:=rfl
end
section
noncomputable def lv:List F → Nat
 | [] => 0
 | f :: r => f.ops + 1 + lv r
theorem lv_app:∀ a b:List F,lv (a ++ b) = lv a + lv b
 | [],b => (Nat.zero_add _).symm
 | f :: r,b => by show f.ops + 1 + lv (r ++ b) = f.ops + 1 + lv r + lv b;rw [lv_app r b];lia
theorem raw_len:∀ f:F,(raw f).length ≤ 12 * f.ops + 1
 | .leaf i => Nat.le_refl 1
 | .node o d a b => by
  have h1:=raw_len a
  have h2:=raw_len b
  have h3:(dressR d).length ≤ 5:=by revert d;decide
  have h4:((wordOf o).take 1).length + ((wordOf o).drop 1).length ≤ 3:=by revert o;decide
  show (dressR d ++ [40] ++ raw a ++ (wordOf o).take 1 ++ [hid d] ++ (wordOf o).drop 1 ++ raw b ++ [41]).length ≤ 12 * (a.ops + b.ops + 1) + 1
  simp only [List.length_append,List.length_cons,List.length_nil];lia
theorem chr_int (i:Int):biop .chr [.int i] = if decide (0 ≤ i) && decide (i < 1114112) then some (.str [i.toNat]) else none:=rfl
theorem chr_nat {n:Nat} (h:n < 1114112):biop .chr [.int (n:Int)] = some (.str [n]):=by
 rw [chr_int,if_pos (by rw [Bool.and_eq_true,decide_eq_true_eq,decide_eq_true_eq];lia)]
 rfl
theorem get_fin {α:Type} {n:Nat} {l:List α} {f:Fin n → α} (h:l = (List.finRange n).map f) (i:Fin n):l[i.1]? = some (f i):=by
 rw [h,List.getElem?_map,List.getElem?_eq_getElem (by rw [List.length_finRange];exact i.2),List.getElem_finRange];rfl
theorem get_words (o:Fin 8):wordsPV[o.1]? = some (.str (wordOf o)):=get_fin (f:=fun o => PV.str (wordOf o)) rfl o
theorem get_syms (o:Fin 8):symsPV[o.1]? = some (.int (symOf o:Nat)):=get_fin (f:=fun o => PV.int (symOf o:Nat)) rfl o
theorem get_hid (d:Fin 6):hidPV[d.1]? = some (.int (hid d:Nat)):=get_fin (f:=fun d => PV.int (hid d:Nat)) rfl d
theorem get_dress (d:Fin 6):(dressesPV [hid d])[d.1]? = some (.str (dressR d)):=fin6 (P:=fun d => (dressesPV [hid d])[d.1]? = some (.str (dressR d))) rfl rfl rfl rfl rfl rfl d
theorem get_heard (i:Fin 10):heardPV[i.1]? = some (.str (heard i)):=get_fin (f:=fun i => PV.str (heard i)) rfl i
theorem get_sg (i:Fin 10):signsPV[i.1]? = some (.int (sg i:Nat)):=get_fin (f:=fun i => PV.int (sg i:Nat)) rfl i
theorem nth_words (o:Fin 8):nth wordsPV (o.1:Int) = some (.str (wordOf o)):=nth_nat (get_words o) (by lia)
theorem nth_syms (o:Fin 8):nth symsPV (o.1:Int) = some (.int (symOf o:Nat)):=nth_nat (get_syms o) (by lia)
theorem nth_hid (d:Fin 6):nth hidPV (d.1:Int) = some (.int (hid d:Nat)) ∧ biop .chr [.int (hid d:Nat)] = some (.str [hid d]):=⟨nth_nat (get_hid d) (by lia),chr_nat (by revert d;decide)⟩
theorem nth_dress (d:Fin 6):nth (dressesPV [hid d]) (d.1:Int) = some (.str (dressR d)):=nth_nat (get_dress d) (by lia)
theorem nth_leaf (i:Fin 10):nth heardPV (i.1:Int) = some (.str (heard i)) ∧ nth signsPV (i.1:Int) = some (.int (sg i:Nat)) ∧ biop .chr [.int (sg i:Nat)] = some (.str [sg i]) :=
 ⟨nth_nat (get_heard i) (by lia),nth_nat (get_sg i) (by lia),chr_nat (by revert i;decide)⟩
theorem fdivmod {x:Int} (h0:0 ≤ x) (a b:Nat) (ha:0 < a) (hb:0 < b):(x.fdiv a).fmod b = ((x.toNat / a % b:Nat):Int):=by
 obtain ⟨n,rfl⟩:=Int.eq_ofNat_of_zero_le h0
 rw [Int.fdiv_eq_ediv_of_nonneg _ (by lia),Int.fmod_eq_emod_of_nonneg _ (by lia)]
 rfl
theorem fmodn {x:Int} (h0:0 ≤ x) (b:Nat):x.fmod b = ((x.toNat % b:Nat):Int):=by
 obtain ⟨n,rfl⟩:=Int.eq_ofNat_of_zero_le h0
 rw [Int.fmod_eq_emod_of_nonneg _ (by lia)]
 rfl
theorem small_lt {x:Int} (h0:0 ≤ x) (h:x < 100000000):small x = true:=by
 unfold small
 rw [Bool.and_eq_true,decide_eq_true_eq,decide_eq_true_eq]
 lia
theorem lv_len (l:List F):l.length ≤ lv l:=by
 induction l with
 | nil => exact Nat.le_refl _
 | cons f r ih => show r.length + 1 ≤ f.ops + 1 + lv r;lia
theorem lv_mid {p q:List F} {a b c:F} (h:c.ops = a.ops + b.ops + 1):lv (p ++ [c] ++ q) = lv (p ++ a :: b :: q) ∧ a.ops + b.ops + 2 ≤ lv (p ++ a :: b :: q):=by
 rw [lv_app,lv_app,lv_app]
 show lv p + (c.ops + 1 + 0) + lv q = lv p + (a.ops + 1 + (b.ops + 1 + lv q)) ∧ _ ≤ lv p + (a.ops + 1 + (b.ops + 1 + lv q))
 lia
theorem two_of {fs:List F} {k:Nat} (hk:k + 1 < fs.length):∃ a b,fs = fs.take k ++ a :: b :: fs.drop (k + 2) ∧ fs[k]? = some a ∧ fs[k + 1]? = some b:=by
 refine ⟨fs[k],fs[k + 1],?_,List.getElem?_eq_getElem _,List.getElem?_eq_getElem _⟩
 rw [List.getElem_cons_drop,List.getElem_cons_drop,List.take_append_drop]
theorem turnB (C:Calls) (n:Nat) {fs:List F} (h2:2 ≤ fs.length) (hlv:lv fs ≤ 6) {x:Int} (hx0:0 ≤ x) (hx:x < 1000000) {s6:Slot} (h6:froz s6 = .list (fs.map rowF)) {u:Nat → Option Slot} (g1:u 1 = some (.ownL wordsPV)) (g2:u 2 = some (.ownL symsPV)) (g5:u 5 = some (.ownL hidPV)) (g6:u 6 = some s6) :
  ∃ (fs':List F) (u':Nat → Option Slot),fs'.length + 1 = fs.length ∧ lv fs' = lv fs ∧ loopB C (n + 40) (.int x) (stB u) = some (.next,stB u') ∧ u' 1 = u 1 ∧ u' 2 = u 2 ∧ u' 5 = u 5 ∧ u' 6 = some (.val (.list (fs'.map rowF))):=by
 have hl6:=Nat.le_trans (lv_len fs) hlv
 have hkl:x.toNat % (fs.length - 1) < fs.length - 1:=Nat.mod_lt _ (Nat.sub_pos_of_lt h2)
 generalize hk:x.toNat % (fs.length - 1) = k at hkl
 have hk1:k + 1 < fs.length:=Nat.add_lt_of_lt_sub hkl
 obtain ⟨a,b,hfs,ga,gb⟩:=two_of hk1
 generalize hO:(⟨x.toNat / 60 % 8,Nat.mod_lt _ (by decide)⟩:Fin 8) = o
 generalize hD:(⟨x.toNat / 480 % 6,Nat.mod_lt _ (by decide)⟩:Fin 6) = dd
 obtain ⟨hlv',hab⟩:=lv_mid (p:=fs.take k) (q:=fs.drop (k + 2)) (c:=.node o dd a b) rfl
 rw [← hfs] at hlv' hab
 have hab:a.ops + b.ops ≤ 4:=Nat.le_of_add_le_add_right (Nat.le_trans hab hlv)
 have hsm:small x = true:=small_lt hx0 (Int.lt_trans hx (by decide))
 have m60:(x.fdiv 60).fmod 8 = (o.1:Int):=by rw [← hO];exact fdivmod hx0 60 8 (by decide) (by decide)
 have m480:(x.fdiv 480).fmod 6 = (dd.1:Int):=by rw [← hD];exact fdivmod hx0 480 6 (by decide) (by decide)
 have hLl:biop .len [.list (fs.map rowF)] = some (.int (fs.length:Int)):=by rw [← List.length_map (f:=rowF)];exact len_list _ (lim_of (by rw [List.length_map];lia))
 have hm:x.fmod ((fs.length:Int) - 1) = (k:Int):=by
  rw [show (fs.length:Int) - 1 = ((fs.length - 1:Nat):Int) by lia,fmodn hx0,hk]
 have hk6:k < 6:=Nat.lt_of_lt_of_le (Nat.lt_of_succ_lt hk1) hl6
 have n0:nth (fs.map rowF) (k:Int) = some (rowF a):=nth_nat (by rw [List.getElem?_map,ga];rfl) (by lia)
 have n1:nth (fs.map rowF) ((k:Int) + 1) = some (rowF b):=nth_nat (k:=k + 1) (by rw [List.getElem?_map,gb];rfl) (by lia)
 have bk:∀ j:Nat,j < 10 → small ((k:Int) + j) = true ∧ bnd (.int ((k:Int) + j)) = some (k + j):=fun j hj => ⟨small_nat (k:=k + j) (by first | rfl | lia) (by lia),bnd_lt (k:=k + j) (by lia)⟩
 have ra:∀ f:F,f.ops ≤ 4 → (raw f).length ≤ 1000:=fun f h => Nat.le_trans (raw_len f) (by lia)
 have hdl:(dressR dd).length ≤ 1000:=by clear hD m480 hlv';revert dd;decide
 have hwl:(wordOf o).length ≤ 1000:=by clear hO m60 hlv';revert o;decide
 have e1:(fs.map rowF).take k ++ [PV.tup [if (symOf o:Int).fmod 2 = 0 then PV.tup [.int (symOf o:Int),told a,told b] else PV.tup [.int (symOf o:Int),told b,told a],.str (dressR dd ++ [40] ++ raw a ++ (wordOf o).take 1 ++ [hid dd] ++ (wordOf o).drop 1 ++ raw b ++ [41])]] ++ (fs.map rowF).drop (k + 2) = (fs.take k ++ [F.node o dd a b] ++ fs.drop (k + 2)).map rowF:=by
  rw [← told_node o dd a b,List.map_append,List.map_append,List.map_take,List.map_drop]
  rfl
 refine ⟨fs.take k ++ [.node o dd a b] ++ fs.drop (k + 2),_,?_,hlv',xN (rB_0 (u:=upd u 9 (.val (.int x))) rfl g6 h6 hLl (small_nat (k:=fs.length) (by first | rfl | lia) (by lia)) (by lia) hm) (xN (rB_1 rfl rfl (bk 0 (by decide)).1 n0 n1) (xN (rB_2 g2 rfl hsm m60 (nth_syms o)) (xN (rB_3 g1 rfl hsm m60 (nth_words o))
  (xN (rB_4 g5 rfl hsm m480 (nth_hid dd).1 (nth_hid dd).2) (xN (rB_5 (w:=[hid dd]) rfl (show 1 < 1000 by decide)) (xN (rB_6 rfl rfl hsm m480 (nth_dress dd)) (xN (rB_7 (v:=told a) (v':=told b) (a:=raw a) (b:=raw b) (w:=wordOf o) (hd:=[hid dd]) (dr:=dressR dd) rfl rfl rfl rfl rfl hdl (ra a (by lia)) (ra b (by lia)) hwl (by decide:1 ≤ 1000))
  (xN (rB_8 (v:=told a) (v':=told b) (a:=.str (raw a)) (b:=.str (raw b)) (s:=symOf o) rfl rfl rfl) (xN (rB_9 rfl rfl rfl rfl (by rw [List.length_map];lia) (bk 0 (by decide)).2 (bk 0 (by decide)).1 (bk 2 (by decide)).2) rfl))))))))),rfl,rfl,rfl,congrArg (fun l => some (Slot.val (PV.list l))) ?_⟩
 ·rw [List.length_append,List.length_append,List.length_take,List.length_drop,List.length_singleton];lia
 ·exact e1
theorem loopB_run (C:Calls) (n:Nat) (xs:List Int):∀ (fs:List F) (s6:Slot) (u:Nat → Option Slot),fs.length = xs.length + 1 → xs ≠ [] → lv fs ≤ 6 → (∀ x ∈ xs,0 ≤ x ∧ x < 1000000) → froz s6 = .list (fs.map rowF) → u 1 = some (.ownL wordsPV) → u 2 = some (.ownL symsPV) → u 5 = some (.ownL hidPV) → u 6 = some s6 →
  ∃ (f:F) (u':Nat → Option Slot),f.ops + 1 = lv fs ∧ loopF (loopB C (n + 40)) (xs.map .int) (stB u) = some (.next,stB u') ∧ u' 6 = some (.val (.list [rowF f])):=by
 induction xs with
 | nil => intro fs s6 u hl hne;exact absurd rfl hne
 | cons x r ih =>
  intro fs s6 u hl _ hlv hx h6 g1 g2 g5 g6
  obtain ⟨fs',u',h1,h2,h3,j1,j2,j5,j6⟩:=turnB C n (Nat.le_trans (Nat.le_add_left 2 _) (Nat.le_of_eq hl.symm)) hlv (hx x (.head _)).1 (hx x (.head _)).2 h6 g1 g2 g5 g6
  have hl':fs'.length = r.length + 1:=Nat.succ.inj (h1.trans hl)
  rw [List.map_cons,loopF_c,h3]
  cases r with
  | nil =>
   obtain ⟨f,rfl⟩:∃ f,fs' = [f]:=List.length_eq_one_iff.mp hl'
   exact ⟨f,u',h2,rfl,j6⟩
  | cons y r =>
   obtain ⟨f,v,h4,h5,h7⟩:=ih fs' _ u' hl' nofun (h2 ▸ hlv) (fun z hz => hx z (.tail _ hz)) rfl (j1.trans g1) (j2.trans g2) (j5.trans g5) j6
   exact ⟨f,v,h4.trans h2,h5,h7⟩
noncomputable def okN (xs:List Int):Prop:=xs ≠ [] ∧ xs.length ≤ 5 ∧ ∀ x ∈ xs,0 ≤ x ∧ x < 1000000
theorem loopA_run (C:Calls) (n:Nat) (xs:List Int) (hxs:okN xs) (j:Nat):∀ (k:Nat) (fs:List F) (u:Nat → Option Slot),k + j ≤ 6 → fs.length = k → lv fs = k → u 0 = some (.val (.list (xs.map .int))) → u 3 = some (.ownL signsPV) → u 4 = some (.ownL heardPV) → u 6 = some (.ownL (fs.map rowF)) →
  ∃ (fs':List F) (u':Nat → Option Slot),fs'.length = k + j ∧ lv fs' = k + j ∧ loopF (loopA C (n + 20)) (rangeI (k:Int) j) (stB u) = some (.next,stB u') ∧ u' 0 = u 0 ∧ u' 1 = u 1 ∧ u' 2 = u 2 ∧ u' 5 = u 5 ∧ u' 6 = some (.ownL (fs'.map rowF)):=by
 induction j with
 | zero => intro k fs u _ h1 h2 g0 g3 g4 g6;exact ⟨fs,u,h1,h2,rfl,rfl,rfl,rfl,rfl,g6⟩
 | succ j ih =>
  intro k fs u hk h1 h2 g0 g3 g4 g6
  have hlx:0 < xs.length:=List.length_pos_iff.mpr hxs.1
  have hkx:k % xs.length < xs.length:=Nat.mod_lt _ hlx
  obtain ⟨x,hx⟩:∃ x,xs[k % xs.length]? = some x:=⟨xs[k % xs.length],List.getElem?_eq_getElem hkx⟩
  obtain ⟨hx0,hxm⟩:=hxs.2.2 x (List.mem_of_getElem? hx)
  have hi:(x.toNat / 2880 + k) % 10 < 10:=Nat.mod_lt _ (by lia)
  generalize hI:(⟨(x.toNat / 2880 + k) % 10,hi⟩:Fin 10) = i
  have hiv:((i.1:Nat):Int) = (((x.toNat / 2880 + k) % 10:Nat):Int):=by rw [← hI]
  have hL:biop .len [.list (xs.map .int)] = some (.int (xs.length:Nat)):=by
   have:=len_list (xs.map .int) (lim_of (by rw [List.length_map];have:=hxs.2.1;lia))
   rwa [List.length_map] at this
  have hn:nth (xs.map .int) ((k:Int).fmod (xs.length:Nat)) = some (.int x):=by
   rw [fmodn (by lia),Int.toNat_natCast]
   exact nth_nat (by rw [List.getElem?_map,hx];rfl) (by have:=hxs.2.1;lia)
  have hq:x.fdiv 2880 = ((x.toNat / 2880:Nat):Int):=by
   obtain ⟨m,rfl⟩:=Int.eq_ofNat_of_zero_le hx0
   rw [Int.fdiv_eq_ediv_of_nonneg _ (by lia)]
   rfl
  have hqs:small (x.fdiv 2880) = true:=by rw [hq];exact small_lt (by lia) (by lia)
  have hm:(x.fdiv 2880 + (k:Int)).fmod 10 = (i.1:Int):=by
   rw [hiv,hq,← Int.natCast_add]
   exact fmodn (by lia) 10
  obtain ⟨i1,i2,i3⟩:=nth_leaf i
  have st:=turnA (C:=C) (n:=n) (u:=u) (k:=(k:Int)) (x:=x) (m:=(i.1:Int)) (L:=(xs.length:Nat)) g0 g3 g4 g6 hL (by lia) hn (small_lt hx0 (by lia)) (small_lt (by lia) (by lia)) hqs hm i1 i2 i3 (lim_of (by rw [List.length_map];lia))
  have e:fs.map rowF ++ [.tup [.str (heard i),.str [sg i]]] = (fs ++ [F.leaf i]).map rowF:=by rw [List.map_append];rfl
  rw [e] at st
  obtain ⟨fs',u',h3,h4,h5,j0,j1,j2,j5,j6⟩:=ih (k + 1) (fs ++ [F.leaf i]) (upd (upd (upd u 7 (.val (.int (k:Int)))) 8 (.val (.int (i.1:Int)))) 6 (.ownL ((fs ++ [F.leaf i]).map rowF))) (Nat.le_trans (Nat.le_of_eq (Nat.add_right_comm ..)) hk) (by rw [List.length_append,h1];rfl) (by rw [lv_app,h2];rfl) g0 g3 g4 rfl
  refine ⟨fs',u',h3.trans (Nat.add_right_comm ..),h4.trans (Nat.add_right_comm ..),?_,j0,j1,j2,j5,j6⟩
  show loopF (loopA C (n + 20)) (.int (k:Int) :: rangeI ((k:Int) + 1) j) _ = _
  rw [loopF_c,st]
  exact h5
end
section
theorem add_int {a b:Int} (ha:small a = true) (hb:small b = true):binop .add (.int a) (.int b) = some (.int (a + b)):=by
 show (if (small a && small b) = true then _ else _) = _
 rw [ha,hb];rfl
theorem exS_for1 {C:Calls} {n:Nat} {e e1:Ev} {x:Nat} {it:It} {b:List S} {its:List PV} (h:evI C n e it = some (its,e1)):exS C (n + 1) e (.for1 x it b) = loopF (fun v e => exB C n (setS e x (.val v)) b) its e1:=by
 show (evI C n e it).bind _ = _
 rw [h];rfl
noncomputable def u10 (xs:List Int):Nat → Option Slot:=upd (upd (upd (upd (upd (upd (upd (fun _ => none) 0 (.val (.list (xs.map .int)))) 1 (.ownL wordsPV)) 2 (.ownL symsPV)) 3 (.ownL signsPV)) 4 (.ownL heardPV)) 5 (.ownL hidPV)) 6 (.ownL [])
theorem drawn_run (d:Nat) (xs:List Int) (hxs:okN xs):∃ f:F,f.ops = xs.length ∧ callN FT (d + 1) 10 [.val (.list (xs.map .int))] = some (rowF f):=by
 have hl5:=hxs.2.1
 obtain ⟨fs,u,h1,h2,h3,j0,j1,j2,j5,j6⟩:=loopA_run (callN FT d) 32 xs hxs (xs.length + 1) 0 [] (u10 xs) (by lia) rfl rfl rfl rfl rfl rfl
 rw [Nat.zero_add] at h1 h2
 obtain ⟨f,u',h4,h5,j7⟩:=loopB_run (callN FT d) 11 xs fs (.ownL (fs.map rowF)) u h1 hxs.1 (by lia) hxs.2.2 rfl j1 j2 j5 j6
 refine ⟨f,Nat.succ.inj (h4.trans h2),?_⟩
 rw [callN_eq d 10 _ rfl]
 have hlen:biop .len [.list (xs.map .int)] = some (.int (xs.length:Nat)):=by
  have:=len_list (xs.map .int) (lim_of (by rw [List.length_map];lia))
  rwa [List.length_map] at this
 have i1:evI (callN FT d) 52 (stB (u10 xs)) (.range (.bin .add (.bi .len [(.var 0)]) (.int (1)))) = some (rangeI 0 (xs.length + 1),stB (u10 xs)) :=
  evI_range (callN FT d) 51 _ _ ((xs.length + 1:Nat):Int) (xB (xF (xL (xV (x:=.list (xs.map .int)) rfl) rfl) hlen) rfl (sm_ok (small_nat (k:=xs.length) (by first | rfl | lia) (by lia)) rfl)) (small_nat (k:=xs.length + 1) (by first | rfl | lia) (by lia))
 refine (congrArg out (xN (e1:=stB (upd (fun _ => none) 0 (.val (.list (xs.map .int))) |> fun v => upd v 1 (.ownL wordsPV))) rfl (xN (e1:=stB (upd (upd (upd (fun _ => none) 0 (.val (.list (xs.map .int)))) 1 (.ownL wordsPV)) 2 (.ownL symsPV))) rfl (xN (e1:=stB (upd (upd (upd (upd (fun _ => none) 0 (.val (.list (xs.map .int)))) 1 (.ownL wordsPV)) 2 (.ownL symsPV)) 3 (.ownL signsPV))) rfl
  (xN (e1:=stB (upd (upd (upd (upd (upd (fun _ => none) 0 (.val (.list (xs.map .int)))) 1 (.ownL wordsPV)) 2 (.ownL symsPV)) 3 (.ownL signsPV)) 4 (.ownL heardPV))) rfl (xN (e1:=stB (upd (upd (upd (upd (upd (upd (fun _ => none) 0 (.val (.list (xs.map .int)))) 1 (.ownL wordsPV)) 2 (.ownL symsPV)) 3 (.ownL signsPV)) 4 (.ownL heardPV)) 5 (.ownL hidPV))) rfl (xN (e1:=stB (u10 xs)) rfl
  (xN ((exS_for1 i1).trans h3) (xN ((exS_for1 (its:=xs.map .int) (e1:=stB u) ?_).trans h5) rfl))))))))).trans ?_
 ·show (evE (callN FT d) 50 (stB u) (.var 0)).bind _ = _
  rw [xV (x:=.list (xs.map .int)) (show getS (stB u) 0 = some (.val (.list (xs.map .int))) from j0)];rfl
 ·have:evE (callN FT d) 50 (stB u') (.idxv 6 (.int 0)) = some (rowF f,stB u'):=xVi (s:=.val (.list [rowF f])) j7 rfl rfl
  exact congrArg out (exB_ret (r:=[]) (exS_ret this))
noncomputable def m3L:List (Nat × List Nat):=[(65,[97]),(122,[122]),(223,[115,115]),(383,[115]),(64257,[102,105]),(64259,[102,102,105]),(64262,[115,116]),(119808,[97]),(120763,[963]),(8470,[110,111]),(34,[34]),(92,[92]),(40,[40]),(41,[41]),(43,[43]),(45,[45]),(42,[42]),(62,[62]),(47,[47]),(60,[60]),(61,[61]),(46,[46])]
noncomputable def pre1 (c:Nat):List Nat:=if hidL.contains c then [] else (m3L.lookup c).getD []
noncomputable def chs:List Nat:=m3L.map (·.1) ++ hidL
noncomputable def b3ok (q:Nat × List Nat):Bool:=match lookB (q.1:Int) b3L with
 | some y => decide (y = q.2)
 | none => Nat.blt q.1 128 && decide ([lowC q.1] = q.2)
theorem b3_ok:m3L.all b3ok = true:=by kernel_rfl
end
section
theorem ev_cmp {C:Calls} {n:Nat} {e e1 e2:Ev} {op:Cop} {a b:E} {x y:PV} {c:Bool} (h1:evE C n e a = some (x,e1)) (h2:evE C n e1 b = some (y,e2)) (h3:cmpop op x y = some c):evE C (n + 1) e (.cmp op a b) = some (.bool c,e2):=by
 show (evE C n e a).bind _ = _
 rw [h1]
 show (evE C n e1 b).bind _ = _
 rw [h2]
 show (cmpop op x y).bind _ = _
 rw [h3];rfl
theorem call6 (d:Nat) (c:Nat) (q:Int) (hq:biop .ord [.str [c]] = some (.int q)):callN FT (d + 1) 6 [.val (.str [c])] = some (.bool (b1L.contains q)):=by
 rw [callN_eq d 6 _ rfl]
 show out (exB (callN FT d) 60 [some (.val (.str [c]))] fn6.body) = _
 have h1:evE (callN FT d) 57 [some (.val (.str [c]))] (.bi .ord [(.var 0)]) = some (.int q,[some (.val (.str [c]))]):=ev_bi1 (show evE (callN FT d) 55 _ (.var 0) = some (.str [c],_) from rfl) hq
 have h2:evE (callN FT d) 58 [some (.val (.str [c]))] (.cmp .isIn (.bi .ord [(.var 0)]) (.gl .b1)) = some (.bool (b1L.contains q),[some (.val (.str [c]))]):=ev_cmp h1 (show evE (callN FT d) 57 _ (.gl .b1) = some (.gl .b1,_) from rfl) rfl
 show out (exB (callN FT d) 60 _ [.ret _]) = _
 rw [exB_ret (exS_ret h2)];rfl
noncomputable def m3b (c:Nat) (q:Int):Option (List Nat):=match lookB q b3L with
 | some y => some y
 | none => if Nat.blt c 128 then some [lowC c] else none
theorem call7 (d:Nat) (c:Nat) (q:Int) (y:List Nat) (hq:biop .ord [.str [c]] = some (.int q)) (hy:m3b c q = some y):callN FT (d + 1) 7 [.val (.str [c])] = some (.str y):=by
 rw [callN_eq d 7 _ rfl]
 show out (exB (callN FT d) 60 [some (.val (.str [c])),none] fn7.body) = _
 have h1:evE (callN FT d) 56 [some (.val (.str [c])),none] (.bi .ord [(.var 0)]) = some (.int q,[some (.val (.str [c])),none]):=ev_bi1 (show evE (callN FT d) 54 _ (.var 0) = some (.str [c],_) from rfl) hq
 have h2:evE (callN FT d) 58 [some (.val (.str [c])),none] (.bi .get1 [(.bi .ord [(.var 0)])]) = some (match lookB q b3L with | some x => .str x | none => .none,[some (.val (.str [c])),none]):=ev_bi1 h1 rfl
 show out (exB (callN FT d) 60 _ [.asg 1 _,.ifs (.cmp .isNot (.var 1) .none) [.ret (.var 1)] [],.ret (.bi .lower [(.var 0)])]) = _
 refine (congrArg out (exB_next (exS_asg h2))).trans ?_
 unfold m3b at hy
 cases hl:lookB q b3L with
 | some z =>
  rw [hl] at hy
  cases hy
  rfl
 | none =>
  rw [hl] at hy
  dsimp only at hy
  split at hy
  ·rename_i hc
   cases hy
   have h3:biop .lower [.str [c]] = some (.str [lowC c]):=by
    show (if Nat.blt c 128 = true then _ else _) = _
    rw [if_pos hc]
   have h4:evE (callN FT d) 56 [some (.val (.str [c])),some (.val .none)] (.bi .lower [(.var 0)]) = some (.str [lowC c],[some (.val (.str [c])),some (.val .none)]):=ev_bi1 (show evE (callN FT d) 54 _ (.var 0) = some (.str [c],_) from rfl) h3
   rw [exB_next (e':=[some (.val (.str [c])),some (.val .none)]) rfl]
   show out (exB (callN FT d) 58 [some (.val (.str [c])),some (.val .none)] [.ret (.bi .lower [(.var 0)])]) = _
   rw [exB_ret (exS_ret h4)];rfl
  ·exact (nS hy).elim
theorem prep_one (d:Nat) {c:Nat} (hc:c ∈ chs):callN FT (d + 1) 6 [.val (.str [c])] = some (.bool (hidL.contains c)) ∧ (hidL.contains c = false → callN FT (d + 1) 7 [.val (.str [c])] = some (.str (pre1 c))):=by
 have hb:(b1L.contains (c:Int)) = hidL.contains c:=by
  have:∀ c ∈ chs,(b1L.contains (c:Int)) = hidL.contains c:=by decide +kernel
  exact this c hc
 refine ⟨by rw [call6 d c (c:Int) rfl,hb],fun hh => ?_⟩
 have hm:∃ q ∈ m3L,q.1 = c ∧ pre1 c = q.2:=by
  have:∀ c ∈ chs,hidL.contains c = false → ∃ q ∈ m3L,q.1 = c ∧ pre1 c = q.2:=by decide +kernel
  exact this c hc hh
 obtain ⟨q,hq,rfl,e⟩:=hm
 refine call7 d q.1 (q.1:Int) _ rfl ?_
 rw [e]
 have hk:=List.all_eq_true.mp b3_ok q hq
 unfold b3ok at hk
 unfold m3b
 cases hl:lookB (q.1:Int) b3L with
 | some y =>
  rw [hl] at hk
  rw [of_decide_eq_true hk]
 | none =>
  rw [hl] at hk
  have hk:=Bool.and_eq_true_iff.mp hk
  show (if Nat.blt q.1 128 = true then some [lowC q.1] else none) = _
  rw [if_pos hk.1,of_decide_eq_true hk.2]
theorem getS_set {e:Ev} {i:Nat} {s:Slot} (h:i < e.length):getS (setS e i s) i = some s:=by
 unfold getS setS
 rw [List.getElem?_set_self h];rfl
theorem vals_len (e:Ev):(vals e).length = e.length:=by unfold vals;rw [List.length_map]
noncomputable def eP:E:=.comp (.call 7 [(.var 28)] none) 28 (.val (.var 5)) [(.not (.val (.call 6 [(.var 28)] none)))]
theorem f28 (C:Calls) (n:Nat) (e:Ev) (he:28 < e.length) (c:PV) (b:Bool) (y:PV) (h6:C 6 [.val c] = some (.bool b)) (h7:b = false → C 7 [.val c] = some y) :
  selF C (n + 20) e (.call 7 [(.var 28)] none) 28 [(.not (.val (.call 6 [(.var 28)] none)))] c = some (if !b then some y else none):=by
 have hg:getS (setS (vals e) 28 (.val c)) 28 = some (.val c):=getS_set (by rw [vals_len];exact he)
 generalize hx:setS (vals e) 28 (.val c) = e' at hg
 unfold selF
 rw [hx]
 cases b with
 | true => exact ob (xG0 (xNot (xTv (xK1 (xV hg) h6))) (by decide)) rfl
 | false => exact ob (xG (xNot (xTv (xK1 (xV hg) h6))) rfl) (ob (xK1 (xV hg) (h7 rfl)) rfl)
theorem chs_raw:∀ (f:F),∀ c ∈ raw f,c ∈ chs
 | .leaf i => by
  show ∀ c ∈ [sg i],c ∈ chs
  revert i;decide +kernel
 | .node o d a b => by
  have h1:=chs_raw a
  have h2:=chs_raw b
  have h3:∀ c ∈ dressR d ++ [40],c ∈ chs:=by revert d;decide +kernel
  have h4:∀ c ∈ (wordOf o).take 1,c ∈ chs:=by revert o;decide +kernel
  have h5:∀ c ∈ (wordOf o).drop 1,c ∈ chs:=by revert o;decide +kernel
  have h6:hid d ∈ chs:=by revert d;decide +kernel
  have h7:41 ∈ chs:=by decide +kernel
  intro c hc
  have hc:c ∈ dressR d ++ [40] ++ raw a ++ (wordOf o).take 1 ++ [hid d] ++ (wordOf o).drop 1 ++ raw b ++ [41]:=hc
  simp only [List.mem_append,List.mem_singleton] at hc
  rcases hc with ((((((h | h) | h) | h) | rfl) | h) | h) | rfl
  ·exact h3 c (by simp [h])
  ·exact h3 c (by simp [h])
  ·exact h1 c h
  ·exact h4 c h
  ·exact h6
  ·exact h5 c h
  ·exact h2 c h
  ·exact h7
theorem pre_raw:∀ f:F,(raw f).flatMap pre1 = flat (pcs f)
 | .leaf i => by
  show [sg i].flatMap pre1 = flat (letP i)
  rw [flat_let]
  revert i;decide +kernel
 | .node o d a b => by
  have h1:=pre_raw a
  have h2:=pre_raw b
  have h3:(dressR d).flatMap pre1 = flat (dressP d):=by revert d;decide +kernel
  have h4:((wordOf o).take 1).flatMap pre1 ++ ((wordOf o).drop 1).flatMap pre1 = wordOf o:=by revert o;decide +kernel
  have h5:[hid d].flatMap pre1 = []:=by revert d;decide +kernel
  have h6:[40].flatMap pre1 = [40]:=by decide +kernel
  have h7:[41].flatMap pre1 = [41]:=by decide +kernel
  show (dressR d ++ [40] ++ raw a ++ (wordOf o).take 1 ++ [hid d] ++ (wordOf o).drop 1 ++ raw b ++ [41]).flatMap pre1 = flat (dressP d ++ lp :: (pcs a ++ opP o :: (pcs b ++ [rp])))
  rw [flat_app]
  show _ = flat (dressP d) ++ ([40] ++ flat (pcs a ++ opP o :: (pcs b ++ [rp])))
  rw [flat_app]
  show _ = flat (dressP d) ++ ([40] ++ (flat (pcs a) ++ (wordOf o ++ flat (pcs b ++ [rp]))))
  rw [flat_app]
  show _ = flat (dressP d) ++ ([40] ++ (flat (pcs a) ++ (wordOf o ++ (flat (pcs b) ++ [41]))))
  simp only [List.flatMap_append,h1,h2,h3,h5,h6,h7,List.append_nil]
  conv => rhs;rw [← h4]
  simp only [List.append_assoc]
theorem joinS_flat:∀ (l:List Nat),joinS ((l.filter fun c => !hidL.contains c).map fun c => .str (pre1 c)) = some (l.flatMap pre1)
 | [] => rfl
 | c :: r => by
  have ih:=joinS_flat r
  rw [List.filter_cons,List.flatMap_cons]
  split
  ·rw [List.map_cons,joinS_c,ih];rfl
  ·rename_i h
   have:pre1 c = []:=by
    unfold pre1
    rw [if_pos (by simpa using h)]
   rw [this,ih];rfl
theorem prep_run (d n:Nat) (f:F) (hf:f.ops ≤ 5) (e:Ev) (he:e.length = 31) (h5:getS e 5 = some (.val (.str (raw f)))):evE (callN FT (d + 1)) (n + 30) e (.bi .join [eP]) = some (.str (flat (pcs f)),e):=by
 have hr:=raw_len f
 have hfl:=flat_len f
 have hi:evI (callN FT (d + 1)) (n + 27) e (.val (.var 5)) = some ((raw f).map fun c => .str [c],e):=by
  have:evE (callN FT (d + 1)) (n + 26) e (.var 5) = some (.str (raw f),e):=xV h5
  show (evE (callN FT (d + 1)) (n + 26) e (.var 5)).bind _ = _
  rw [this];rfl
 have hc:compL (selF (callN FT (d + 1)) (n + 27) e (.call 7 [(.var 28)] none) 28 [(.not (.val (.call 6 [(.var 28)] none)))]) ((raw f).map fun c => .str [c]) = some (((raw f).filter fun c => !hidL.contains c).map fun c => .str (pre1 c)) :=
  compL_sel (fun c => .str [c]) (fun c => !hidL.contains c) (fun c => .str (pre1 c)) (raw f) fun c hc => by
   obtain ⟨g1,g2⟩:=prep_one d (chs_raw f c hc)
   exact f28 (callN FT (d + 1)) (n + 7) e (by lia) (.str [c]) _ _ g1 g2
 have hll:(((raw f).filter fun c => !hidL.contains c).map fun c => PV.str (pre1 c)).length ≤ (raw f).length:=by rw [List.length_map];exact List.length_filter_le ..
 have h1:evE (callN FT (d + 1)) (n + 28) e eP = _:=ev_comp (by rw [he];rfl) hi hc (lim_of (by lia)) (lim_of (by rw [List.length_map];lia))
 refine ev_bi1 h1 (join_list _ _ ?_ (lim_of (by lia)) (lim_of (by lia)))
 rw [joinS_flat,pre_raw]
end
section
noncomputable def jr (p:Nat) (ps:List Pc):Row:=(rws p ps).filter fun q => opB q.1
theorem jr_one:∀ (ps:List Pc) (p j:Nat) (q:Nat × Nat × Nat),(jr p ps)[j]? = some q → ∃ M s w P2,ps = M ++ .ch s w :: P2 ∧ opB s = true ∧ q = (s,p + (flat M).length,p + (flat M).length + w.length)
 | [],p,j,q,h => by exact (nS h).elim
 | .sk s :: r,p,j,q,h => by
  obtain ⟨M,s',w,P2,h1,h2,h3⟩:=jr_one r (p + s.length) j q h
  refine ⟨.sk s :: M,s',w,P2,by rw [h1];rfl,h2,?_⟩
  show q = (s',p + (s ++ flat M).length,p + (s ++ flat M).length + w.length)
  rw [h3,List.length_append,Nat.add_assoc p]
 | .ch s w :: r,p,j,q,h => by
  have h:(((s,p,p + w.length) :: rws (p + w.length) r).filter fun q => opB q.1)[j]? = some q:=h
  rw [List.filter_cons] at h
  have tail:∀ j,(jr (p + w.length) r)[j]? = some q → ∃ M s' w' P2,.ch s w :: r = M ++ .ch s' w' :: P2 ∧ opB s' = true ∧ q = (s',p + (flat M).length,p + (flat M).length + w'.length):=fun j h => by
   obtain ⟨M,s',w',P2,h1,h2,h3⟩:=jr_one r (p + w.length) j q h
   refine ⟨.ch s w :: M,s',w',P2,by rw [h1];rfl,h2,?_⟩
   show q = (s',p + (w ++ flat M).length,p + (w ++ flat M).length + w'.length)
   rw [h3,List.length_append,Nat.add_assoc p]
  split at h
  ·rename_i hs
   cases j with
   | zero => cases h;exact ⟨[],s,w,r,rfl,hs,rfl⟩
   | succ j => exact tail j h
  ·exact tail j h
theorem jr_two:∀ (ps:List Pc) (p i j:Nat) (q q':Nat × Nat × Nat),i < j → (jr p ps)[i]? = some q → (jr p ps)[j]? = some q' → ∃ P s w M s' w' P2,ps = P ++ .ch s w :: (M ++ .ch s' w' :: P2) ∧ opB s = true ∧ opB s' = true ∧ q.2.2 = p + (flat P).length + w.length ∧ q'.2.1 = p + (flat P).length + w.length + (flat M).length
 | [],p,i,j,q,q',_,h,_ => by exact (nS h).elim
 | .sk s :: r,p,i,j,q,q',hij,h,h' => by
  obtain ⟨P,s1,w,M,s2,w',P2,h1,h2,h3,h4,h5⟩:=jr_two r (p + s.length) i j q q' hij h h'
  have e:(flat (.sk s :: P)).length = s.length + (flat P).length:=by show (s ++ flat P).length = _;rw [List.length_append]
  exact ⟨.sk s :: P,s1,w,M,s2,w',P2,by rw [h1];rfl,h2,h3,by rw [h4,e];lia,by rw [h5,e];lia⟩
 | .ch s w :: r,p,i,j,q,q',hij,h,h' => by
  have h:(((s,p,p + w.length) :: rws (p + w.length) r).filter fun q => opB q.1)[i]? = some q:=h
  have h':(((s,p,p + w.length) :: rws (p + w.length) r).filter fun q => opB q.1)[j]? = some q':=h'
  rw [List.filter_cons] at h h'
  have tail:∀ i j,i < j → (jr (p + w.length) r)[i]? = some q → (jr (p + w.length) r)[j]? = some q' → ∃ P s1 w1 M s' w' P2,.ch s w :: r = P ++ .ch s1 w1 :: (M ++ .ch s' w' :: P2) ∧ opB s1 = true ∧ opB s' = true ∧ q.2.2 = p + (flat P).length + w1.length ∧ q'.2.1 = p + (flat P).length + w1.length + (flat M).length:=fun i j hij h h' => by
   obtain ⟨P,s1,w1,M,s2,w',P2,h1,h2,h3,h4,h5⟩:=jr_two r (p + w.length) i j q q' hij h h'
   have e:(flat (.ch s w :: P)).length = w.length + (flat P).length:=by show (w ++ flat P).length = _;rw [List.length_append]
   exact ⟨.ch s w :: P,s1,w1,M,s2,w',P2,by rw [h1];rfl,h2,h3,by rw [h4,e];lia,by rw [h5,e];lia⟩
  split at h
  ·rename_i hs
   rw [if_pos hs] at h'
   cases j with
   | zero => lia
   | succ j =>
    cases i with
    | zero =>
     cases h
     obtain ⟨M,s',w',P2,h1,h2,h3⟩:=jr_one r (p + w.length) j q' h'
     refine ⟨[],s,w,M,s',w',P2,by rw [h1];rfl,hs,h2,rfl,?_⟩
     rw [h3];rfl
    | succ i => exact tail i j (by lia) h h'
  ·rename_i hs
   rw [if_neg hs] at h'
   exact tail i j hij h h'
theorem jr_len (p:Nat) (ps:List Pc):(jr p ps).length ≤ ps.length:=Nat.le_trans (List.length_filter_le ..) (rws_len ps p)
theorem pair_no {f:F} (hf:f.ops ≤ 5) (d:Nat) {i j:Nat} {q q':Nat × Nat × Nat} (hij:i < j) (h:(jr 0 (pcs f))[i]? = some q) (h':(jr 0 (pcs f))[j]? = some q') :
  ∃ y,slcop (.str (flat (pcs f))) (some (.int (q.2.2:Nat))) (some (.int (q'.2.1:Nat))) = some (.str y) ∧ callN FT (d + 2) 2 [.val (.str y)] = some (.bool false):=by
 obtain ⟨P,s,w,M,s',w',P2,h1,h2,h3,h4,h5⟩:=jr_two (pcs f) 0 i j q q' hij h h'
 have hl:=flat_len f
 have hp:=pcs_len f
 have e1:flat (pcs f) = (flat P ++ w) ++ (flat M ++ flat (.ch s' w' :: P2)):=by
  rw [h1,flat_app]
  show flat P ++ (w ++ flat (M ++ .ch s' w' :: P2)) = _
  rw [flat_app M,List.append_assoc]
 have e2:(flat (pcs f)).length = (flat P).length + w.length + ((flat M).length + (flat (.ch s' w' :: P2)).length):=by
  rw [e1];simp only [List.length_append]
 have e3:(pcs f).length = P.length + (M.length + (P2.length + 1) + 1):=by rw [h1];simp only [List.length_append,List.length_cons]
 refine ⟨flat M,?_,?_⟩
 ·rw [slc_both _ (bnd_lt (k:=q.2.2) (by lia)) (bnd_lt (k:=q'.2.1) (by lia)) (lim_of (by lia)),h4,h5,Nat.zero_add,e1]
  have:=cut_mid (flat P ++ w) (flat M) (flat (.ch s' w' :: P2))
  rw [List.length_append] at this
  rw [this]
 ·have hfit:∀ x ∈ M,x.fit:=fun x hx => fit_pcs f x (by rw [h1];simp [hx])
  have:=check_run (ps:=M) d hfit (by lia) (by lia)
  rw [decide_eq_false (between h2 h3 h1)] at this
  exact this
noncomputable def Same (l:List Nat) (e e':Ev):Prop:=e'.length = e.length ∧ ∀ i,i ∉ l → getS e' i = getS e i
theorem Same.refl (l:List Nat) (e:Ev):Same l e e:=⟨rfl,fun _ _ => rfl⟩
theorem Same.trans {l:List Nat} {a b c:Ev} (h:Same l a b) (h':Same l b c):Same l a c:=⟨h'.1.trans h.1,fun i hi => (h'.2 i hi).trans (h.2 i hi)⟩
theorem getS_ne {e:Ev} {i j:Nat} {s:Slot} (h:i ≠ j):getS (setS e i s) j = getS e j:=by
 unfold getS setS
 rw [List.getElem?_set_ne h]
theorem set_len (e:Ev) (i:Nat) (s:Slot):(setS e i s).length = e.length:=by unfold setS;rw [List.length_set]
theorem Same.set {l:List Nat} {e:Ev} {i:Nat} (s:Slot) (h:i ∈ l):Same l e (setS e i s):=⟨set_len e i s,fun j hj => getS_ne fun q => hj (q ▸ h)⟩
theorem Same.mono {l l':List Nat} {a b:Ev} (h:Same l a b) (hl:∀ i ∈ l,i ∈ l'):Same l' a b:=⟨h.1,fun i hi => h.2 i fun q => hi (hl i q)⟩
noncomputable def body17b:List S:=[.ifs (.cmp .isNot (.call 2 [(.slc (.var 6) (some (.idx (.idxv 9 (.var 11)) (.int (2)))) (some (.idx (.idxv 9 (.var 10)) (.int (1)))))] none) (.bool false)) [(.ret (.bool false))] []]
noncomputable def s17_10:S:=.for1 10 (.range (.bi .len [(.var 9)])) [(.for1 11 (.range (.var 10)) body17b)]
theorem turn17b (C:Calls) (n:Nat) (e:Ev) (t y:PV) (l:List PV) (i j s1 t1 u1 s2 t2 u2:Int) (h6:getS e 6 = some (.val t)) (h9:getS e 9 = some (.val (.list l))) (h10:getS e 10 = some (.val (.int j))) (h11:getS e 11 = some (.val (.int i)))
  (hi:nth l i = some (.tup [.int s1,.int t1,.int u1])) (hj:nth l j = some (.tup [.int s2,.int t2,.int u2])) (hy:slcop t (some (.int u1)) (some (.int t2)) = some y) (hC:C 2 [.val y] = some (.bool false)):exB C (n + 20) e body17b = some (.next,e):=by
 exact xN (xI0 (xT (xK1 (xS (xV h6) (xO (xX (xVi h9 (xV h11) hi) rfl rfl)) (xO (xX (xVi h9 (xV h10) hj) rfl rfl)) hy) hC) rfl rfl) rfl) rfl
end
section
theorem inner17 {f:F} (hf:f.ops ≤ 5) (d n:Nat) (j:Nat) {q':Nat × Nat × Nat} (hj:(jr 0 (pcs f))[j]? = some q'):∀ (k i0:Nat) (e:Ev),i0 + k ≤ j → e.length = 31 → getS e 6 = some (.val (.str (flat (pcs f)))) → getS e 9 = some (.val (.list (rowV (jr 0 (pcs f))))) → getS e 10 = some (.val (.int (j:Int))) →
  ∃ e',loopF (fun v e => exB (callN FT (d + 2)) (n + 20) (setS e 11 (.val v)) body17b) (rangeI (i0:Int) k) e = some (.next,e') ∧ Same [11] e e'
 | 0,_,e,_,_,_,_,_ => ⟨e,rfl,Same.refl _ _⟩
 | k + 1,i0,e,hk,hl,h6,h9,h10 => by
  have hjl:j < (jr 0 (pcs f)).length:=by
   rcases Nat.lt_or_ge j (jr 0 (pcs f)).length with h | h
   ·exact h
   ·rw [List.getElem?_eq_none h] at hj;exact (nS hj).elim
  have hll:=jr_len 0 (pcs f)
  have hpl:=pcs_len f
  obtain ⟨q,hq⟩:∃ q,(jr 0 (pcs f))[i0]? = some q:=⟨_,List.getElem?_eq_getElem (by lia)⟩
  obtain ⟨y,hy,hC⟩:=pair_no hf d (show i0 < j by lia) hq hj
  have st:=turn17b (callN FT (d + 2)) n (setS e 11 (.val (.int (i0:Int)))) (.str (flat (pcs f))) (.str y) (rowV (jr 0 (pcs f))) (i0:Int) (j:Int) q.1 q.2.1 q.2.2 q'.1 q'.2.1 q'.2.2 (by rw [getS_ne (by decide)];exact h6) (by rw [getS_ne (by decide)];exact h9) (by rw [getS_ne (by decide)];exact h10) (getS_set (by lia)) (nth_nat (rowV_get hq) (by lia)) (nth_nat (rowV_get hj) (by lia)) hy hC
  obtain ⟨e',h1,h2⟩:=inner17 hf d n j hj k (i0 + 1) (setS e 11 (.val (.int (i0:Int)))) (by lia) (by rw [set_len];exact hl) (by rw [getS_ne (by decide)];exact h6) (by rw [getS_ne (by decide)];exact h9) (by rw [getS_ne (by decide)];exact h10)
  refine ⟨e',?_,(Same.set _ (by simp)).trans h2⟩
  show loopF _ (.int (i0:Int) :: rangeI ((i0:Int) + 1) k) e = _
  rw [loopF_c,st]
  rw [Int.natCast_add] at h1
  exact h1
theorem outer17 {f:F} (hf:f.ops ≤ 5) (d n:Nat):∀ (k j0:Nat) (e:Ev),j0 + k ≤ (jr 0 (pcs f)).length → e.length = 31 → getS e 6 = some (.val (.str (flat (pcs f)))) → getS e 9 = some (.val (.list (rowV (jr 0 (pcs f))))) →
  ∃ e',loopF (fun v e => exB (callN FT (d + 2)) (n + 30) (setS e 10 (.val v)) [(.for1 11 (.range (.var 10)) body17b)]) (rangeI (j0:Int) k) e = some (.next,e') ∧ Same [10,11] e e'
 | 0,_,e,_,_,_,_ => ⟨e,rfl,Same.refl _ _⟩
 | k + 1,j0,e,hk,hl,h6,h9 => by
  have hll:=jr_len 0 (pcs f)
  have hpl:=pcs_len f
  obtain ⟨q,hq⟩:∃ q,(jr 0 (pcs f))[j0]? = some q:=⟨_,List.getElem?_eq_getElem (by lia)⟩
  have g10:getS (setS e 10 (.val (.int (j0:Int)))) 10 = some (.val (.int (j0:Int))):=getS_set (by lia)
  obtain ⟨e1,h1,h2⟩:=inner17 hf d (n + 8) j0 hq j0 0 (setS e 10 (.val (.int (j0:Int)))) (by lia) (by rw [set_len];exact hl) (by rw [getS_ne (by decide)];exact h6) (by rw [getS_ne (by decide)];exact h9) g10
  have hi:evI (callN FT (d + 2)) (n + 28) (setS e 10 (.val (.int (j0:Int)))) (.range (.var 10)) = some (rangeI 0 j0,setS e 10 (.val (.int (j0:Int)))):=by
   have:=evI_range (callN FT (d + 2)) (n + 27) (setS e 10 (.val (.int (j0:Int)))) (.var 10) (j0:Int) (xV g10) (small_nat (k:=j0) (by first | rfl | lia) (by lia))
   rw [this,Int.toNat_natCast]
  have st:exB (callN FT (d + 2)) (n + 30) (setS e 10 (.val (.int (j0:Int)))) [(.for1 11 (.range (.var 10)) body17b)] = some (.next,e1):=by
   exact (exB_next ((exS_for1 hi).trans h1)).trans rfl
  obtain ⟨e',h3,h4⟩:=outer17 hf d n k (j0 + 1) e1 (by lia) (by rw [h2.1,set_len];exact hl) (by rw [h2.2 6 (by decide),getS_ne (by decide)];exact h6) (by rw [h2.2 9 (by decide),getS_ne (by decide)];exact h9)
  refine ⟨e',?_,((Same.set _ (by simp)).trans (h2.mono (by simp))).trans h4⟩
  show loopF _ (.int (j0:Int) :: rangeI ((j0:Int) + 1) k) e = _
  rw [loopF_c,st]
  rw [Int.natCast_add] at h3
  exact h3
theorem pairs_run {f:F} (hf:f.ops ≤ 5) (d n:Nat) (e:Ev) (hl:e.length = 31) (h6:getS e 6 = some (.val (.str (flat (pcs f))))) (h9:getS e 9 = some (.val (.list (rowV (jr 0 (pcs f)))))) :
  ∃ e',exS (callN FT (d + 2)) (n + 31) e s17_10 = some (.next,e') ∧ Same [10,11] e e':=by
 have hll:=jr_len 0 (pcs f)
 have hpl:=pcs_len f
 obtain ⟨e',h1,h2⟩:=outer17 hf d n (jr 0 (pcs f)).length 0 e (by lia) hl h6 h9
 refine ⟨e',?_,h2⟩
 have hlen:biop .len [.list (rowV (jr 0 (pcs f)))] = some (.int ((jr 0 (pcs f)).length:Nat)):=by
  have:=len_list (rowV (jr 0 (pcs f))) (lim_of (by unfold rowV;rw [List.length_map];lia))
  rwa [show (rowV (jr 0 (pcs f))).length = (jr 0 (pcs f)).length by unfold rowV;rw [List.length_map]] at this
 have x1:evE (callN FT (d + 2)) (n + 29) e (.bi .len [(.var 9)]) = some (.int ((jr 0 (pcs f)).length:Nat),e):=ev_bi1 (xV h9) hlen
 have hi:evI (callN FT (d + 2)) (n + 30) e (.range (.bi .len [(.var 9)])) = some (rangeI 0 (jr 0 (pcs f)).length,e):=by
  have:=evI_range (callN FT (d + 2)) (n + 29) e _ _ x1 (small_of (k:=(jr 0 (pcs f)).length) (by lia) (by lia) (by lia))
  rw [this,Int.toNat_natCast]
 exact (exS_for1 hi).trans h1
noncomputable def e17_9:E:=.comp (.var 29) 29 (.val (.var 7)) [(.and [(.val (.call 8 [(.idxv 29 (.int (0)))] none)),(.cmp .gt (.idxv 29 (.int (0))) (.int (8)))])]
theorem f29 (C:Calls) (hC:∀ s,C 8 [.val (.int s)] = some (.bool (decide (s < 256)))) (n:Nat) (e:Ev) (he:29 < e.length) (s t u:Int) :
  selF C (n + 20) e (.var 29) 29 [(.and [(.val (.call 8 [(.idxv 29 (.int (0)))] none)),(.cmp .gt (.idxv 29 (.int (0))) (.int (8)))])] (.tup [.int s,.int t,.int u]) = some (if decide (s < 256) && decide (8 < s) then some (.tup [.int s,.int t,.int u]) else none):=by
 have hg:getS (setS (vals e) 29 (.val (.tup [.int s,.int t,.int u]))) 29 = some (.val (.tup [.int s,.int t,.int u])):=getS_set (by rw [vals_len];exact he)
 generalize hx:setS (vals e) 29 (.val (.tup [.int s,.int t,.int u])) = e' at hg
 unfold selF
 rw [hx]
 by_cases h1:s < 256
 ·by_cases h2:8 < s
  ·rw [decide_eq_true h1,decide_eq_true h2]
   exact ob (xG (xAnd (xG (xTv (xK1 (xVi hg rfl rfl) ((hC s).trans (by rw [decide_eq_true h1])))) (xG (xT (xVi hg rfl rfl) rfl (sT h2)) rfl))) rfl) (ob (xV hg) rfl)
  ·rw [decide_eq_false h2,Bool.and_false]
   exact ob (xG0 (xAnd (xG (xTv (xK1 (xVi hg rfl rfl) ((hC s).trans (by rw [decide_eq_true h1])))) (xG0 (xT (xVi hg rfl rfl) rfl (sF h2)) Bool.false_ne_true))) Bool.false_ne_true) rfl
 ·rw [decide_eq_false h1,Bool.false_and]
  exact ob (xG0 (xAnd (xG0 (xTv (xK1 (xVi hg rfl rfl) ((hC s).trans (by rw [decide_eq_false h1])))) Bool.false_ne_true)) Bool.false_ne_true) rfl
theorem joints_run (C:Calls) (hC:∀ s,C 8 [.val (.int s)] = some (.bool (decide (s < 256)))) (n:Nat) (ps:List Pc) (hps:ps.length < 90000) (e:Ev) (he:e.length = 31) (h7:getS e 7 = some (.val (.list (rowV (rws 0 ps))))):evE C (n + 30) e e17_9 = some (.list (rowV (jr 0 ps)),e):=by
 have hl:=rws_len ps 0
 have hl2:=jr_len 0 ps
 have hi:evI C (n + 29) e (.val (.var 7)) = some (rowV (rws 0 ps),e):=by
  have:evE C (n + 28) e (.var 7) = some (.list (rowV (rws 0 ps)),e):=xV h7
  show (evE C (n + 28) e (.var 7)).bind _ = _
  rw [this];rfl
 have hr:compL (selF C (n + 29) e (.var 29) 29 [(.and [(.val (.call 8 [(.idxv 29 (.int (0)))] none)),(.cmp .gt (.idxv 29 (.int (0))) (.int (8)))])]) (rowV (rws 0 ps)) = some (rowV (jr 0 ps)) :=
  compL_sel rowOne (fun q => opB q.1) rowOne (rws 0 ps) fun q _ => by
   have:=f29 C hC (n + 9) e (by lia) (q.1:Int) (q.2.1:Int) (q.2.2:Int)
   rw [opB_eq] at this
   exact this
 exact ev_comp (by rw [he];rfl) hi hr (lim_of (by unfold rowV;rw [List.length_map];lia)) (lim_of (by unfold rowV;rw [List.length_map];lia))
end
section
set_option genCtorIdx false in
inductive Tr3
 | l | n (a b:Tr3)
noncomputable def Tr3.ctorIdx (x:Tr3):Nat:=Tr3.casesOn x 0 (fun _ _ => 1)
noncomputable def shp:F → Tr3
 | .leaf _ => .l
 | .node o _ a b => if symOf o % 2 = 0 then .n (shp a) (shp b) else .n (shp b) (shp a)
noncomputable def Tr3.lvs:Tr3 → Nat
 | .l => 1
 | .n a b => a.lvs + b.lvs
noncomputable def tri (at_:Nat):Tr3 → Row
 | .l => []
 | .n a b => (at_,at_ + a.lvs,at_ + a.lvs + b.lvs) :: (tri at_ a ++ tri (at_ + a.lvs) b)
theorem lvs_shp:∀ f:F,(shp f).lvs = f.ops + 1
 | .leaf _ => rfl
 | .node o d a b => by
  have h1:=lvs_shp a
  have h2:=lvs_shp b
  show (if symOf o % 2 = 0 then Tr3.n (shp a) (shp b) else .n (shp b) (shp a)).lvs = a.ops + b.ops + 1 + 1
  split
  ·show (shp a).lvs + (shp b).lvs = _;lia
  ·show (shp b).lvs + (shp a).lvs = _;lia
theorem tri_len:∀ (s:Tr3) (p:Nat),(tri p s).length + 1 = s.lvs
 | .l,_ => rfl
 | .n a b,p => by
  have h1:=tri_len a p
  have h2:=tri_len b (p + a.lvs)
  show (tri p a ++ tri (p + a.lvs) b).length + 1 + 1 = a.lvs + b.lvs
  rw [List.length_append];lia
theorem fn13_body:fn13.body = [.ifs (.val (.bi .isStr [(.var 0)])) [(.ret (.tup [(.int (1)),(.lst [])]))] [],.unp [2,3] (.call 13 [(.idxv 0 (.int (1))),(.var 1)] none),.unp [4,5] (.call 13 [(.idxv 0 (.int (2))),(.bin .add (.var 1) (.var 2))] none),
 .ret (.tup [(.bin .add (.var 2) (.var 4)),(.bin .add (.bin .add (.lst [(.tup [(.var 1),(.bin .add (.var 1) (.var 2)),(.bin .add (.bin .add (.var 1) (.var 2)) (.var 4))])]) (.var 3)) (.var 5))])]:=rfl
theorem step13 (C:Calls) (n:Nat) (s u v:PV) (l1 l2:List PV) (a m k:Int) (h1:C 13 [.val u,.val (.int a)] = some (.tup [.int m,.list l1])) (h2:C 13 [.val v,.val (.int (a + m))] = some (.tup [.int k,.list l2])) (b1:binop .add (.int a) (.int m) = some (.int (a + m))) (b2:binop .add (.int (a + m)) (.int k) = some (.int (a + m + k))) (b3:binop .add (.int m) (.int k) = some (.int (m + k)))
  (b4:binop .add (.list [.tup [.int a,.int (a + m),.int (a + m + k)]]) (.list l1) = some (.list (.tup [.int a,.int (a + m),.int (a + m + k)] :: l1))) (b5:binop .add (.list (.tup [.int a,.int (a + m),.int (a + m + k)] :: l1)) (.list l2) = some (.list (.tup [.int a,.int (a + m),.int (a + m + k)] :: (l1 ++ l2)))) :
  ∃ e',exB C (n + 20) [some (.val (.tup [s,u,v])),some (.val (.int a)),none,none,none,none] fn13.body = some (.ret (.tup [.int (m + k),.list (.tup [.int a,.int (a + m),.int (a + m + k)] :: (l1 ++ l2))]),e'):=by
 rw [fn13_body]
 have i0:biop .isStr [.tup [s,u,v]] = some (.bool false):=rfl
 exact ⟨_,xN (xI0 (xTv (xF (xL rfl rfl) i0)) rfl) (xN (exS_unp2 (xK2 (xVi rfl rfl rfl) rfl h1)) (xN (exS_unp2 (xK2 (xVi rfl rfl rfl) (xB rfl rfl b1) h2)) (xM (xR (xU (xL (xB rfl rfl b3) (xL (xB (xB (xJ (xL (xU (xL rfl (xL (xB rfl rfl b1) (xL (xB (xB rfl rfl b1) rfl b2) rfl)))) rfl)) rfl b4) rfl b5) rfl)))))))⟩
theorem tri_run:∀ (f:F) (d p:Nat),f.ops + 1 ≤ d → p + f.ops < 1000 → callN FT d 13 [.val (told f),.val (.int (p:Nat))] = some (.tup [.int ((shp f).lvs:Nat),.list (rowV (tri p (shp f)))])
 | .leaf i,d,p,hd,hp => by
  obtain ⟨d,rfl⟩:∃ e,d = e + 1:=⟨d - 1,by lia⟩
  rw [callN_eq d 13 _ rfl]
  rfl
 | .node o k a b,d,p,hd,hp => by
  have ho:(F.node o k a b).ops = a.ops + b.ops + 1:=rfl
  obtain ⟨d,rfl⟩:∃ e,d = e + 1:=⟨d - 1,by lia⟩
  have key:∀ x y:F,x.ops + y.ops = a.ops + b.ops → (∀ p',p' + x.ops < 1000 → callN FT d 13 [.val (told x),.val (.int (p':Nat))] = some (.tup [.int ((shp x).lvs:Nat),.list (rowV (tri p' (shp x)))])) → (∀ p',p' + y.ops < 1000 → callN FT d 13 [.val (told y),.val (.int (p':Nat))] = some (.tup [.int ((shp y).lvs:Nat),.list (rowV (tri p' (shp y)))])) →
    callN FT (d + 1) 13 [.val (.tup [.int (symOf o:Nat),told x,told y]),.val (.int (p:Nat))] = some (.tup [.int ((Tr3.n (shp x) (shp y)).lvs:Nat),.list (rowV (tri p (.n (shp x) (shp y))))]):=by
   intro x y hxy hx hy
   have l1:=lvs_shp x
   have l2:=lvs_shp y
   have t1:=tri_len (shp x) p
   have t2:=tri_len (shp y) (p + (shp x).lvs)
   have h1:=hx p (by lia)
   have h2:=hy (p + (shp x).lvs) (by lia)
   rw [Int.natCast_add] at h2
   have sm:∀ k:Nat,k < 3000 → small (k:Int) = true:=fun k hk => small_nat (k:=k) (by first | rfl | lia) (by lia)
   have sm2:small ((p:Int) + ((shp x).lvs:Nat)) = true:=by rw [← Int.natCast_add];exact sm _ (by lia)
   rw [callN_eq d 13 _ rfl]
   obtain ⟨e',h3⟩:=step13 (callN FT d) 40 (.int (symOf o:Nat)) (told x) (told y) _ _ (p:Int) ((shp x).lvs:Nat) ((shp y).lvs:Nat) h1 h2 (add_int (sm _ (by lia)) (sm _ (by lia))) (add_int sm2 (sm _ (by lia))) (add_int (sm _ (by lia)) (sm _ (by lia)))
    (add_list (by unfold rowV;rw [List.length_map];simp only [List.length_cons,List.length_nil];lia)) (add_list (by unfold rowV;rw [List.length_cons,List.length_map,List.length_map];lia))
   refine (congrArg out h3).trans ?_
   show some (PV.tup [.int (((shp x).lvs:Nat) + ((shp y).lvs:Nat)),.list (_ :: (rowV (tri p (shp x)) ++ rowV (tri (p + (shp x).lvs) (shp y))))]) = some (PV.tup [.int (((shp x).lvs + (shp y).lvs:Nat):Int),.list (rowV ((p,p + (shp x).lvs,p + (shp x).lvs + (shp y).lvs) :: (tri p (shp x) ++ tri (p + (shp x).lvs) (shp y))))])
   unfold rowV
   rw [List.map_cons,List.map_append]
   simp only [rowOne,Int.natCast_add]
  rw [told_c,show shp (.node o _ a b) = if symOf o % 2 = 0 then .n (shp a) (shp b) else .n (shp b) (shp a) from rfl]
  by_cases h:symOf o % 2 = 0
  ·rw [if_pos h,if_pos h]
   exact key a b rfl (fun p' hp' => tri_run a d p' (by lia) hp') (fun p' hp' => tri_run b d p' (by lia) hp')
  ·rw [if_neg h,if_neg h]
   exact key b a (Nat.add_comm ..) (fun p' hp' => tri_run b d p' (by lia) hp') (fun p' hp' => tri_run a d p' (by lia) hp')
end
section
noncomputable abbrev one64:UInt64:=4607182418800017408
noncomputable abbrev half64:UInt64:=4602678819172646912
noncomputable abbrev quar64:UInt64:=4598175219545276416
inductive Co | r | g | b
 deriving DecidableEq
noncomputable def Co.fl:Co → List UInt64
 | .r => [one64,0,0]
 | .g => [0,one64,0]
 | .b => [0,0,one64]
noncomputable def col (c:Co):PV:=.tup (c.fl.map .flt)
noncomputable def Co.mix:Co → Co → List UInt64
 | .r,.r => [one64,0,0]
 | .g,.g => [0,one64,0]
 | .b,.b => [0,0,one64]
 | .r,.g => [half64,half64,0]
 | .g,.r => [half64,half64,0]
 | .r,.b => [half64,0,half64]
 | .b,.r => [half64,0,half64]
 | .g,.b => [0,half64,half64]
 | .b,.g => [0,half64,half64]
noncomputable def Co.third:Co → Co → Co
 | .r,.g => .b
 | .g,.r => .b
 | .r,.b => .g
 | .b,.r => .g
 | _,_ => .r
noncomputable def Co.sixth:Co → Co → Int
 | .r,.g => 1
 | .g,.r => 1
 | .r,.b => 5
 | .b,.r => 5
 | .g,.b => 3
 | .b,.g => 3
 | _,_ => 0
theorem mix_run (d:Nat) (x y:Co):callN FT (d + 1) 14 [.val (col x),.val (col y)] = some (.list ((x.mix y).map .flt)):=by
 cases x <;> cases y <;> kernel_rfl
theorem sixth_run (d n:Nat) (x y:Co) (h:x ≠ y) (s0 s1 s2 s3 s4 s6:Option Slot) :
  evE (callN FT (d + 1)) (n + 20) [s0,s1,s2,s3,s4,some (.val (.list ((x.mix y).map .flt))),s6] (.bi .int [(.bin .add (.bin .mul (.idx (.call 4 [(.idxv 5 (.int (0))),(.idxv 5 (.int (1))),(.idxv 5 (.int (2)))] none) (.int (0))) (.int (6))) (.flt 4602678819172646912))]) =
   some (.int (x.sixth y),[s0,s1,s2,s3,s4,some (.val (.list ((x.mix y).map .flt))),s6]):=by
 cases x <;> cases y <;> first | exact absurd rfl h | kernel_rfl
theorem third_run (d n:Nat) (x y:Co) (h:x ≠ y) (s0 s1 s2 s3 s4 s5:Option Slot) :
  evE (callN FT (d + 1)) (n + 20) [s0,s1,s2,s3,s4,s5,some (.val (.int (x.sixth y)))] (.call 5 [(.bin .div (.bin .mod (.bin .add (.var 6) (.int (3))) (.int (6))) (.int (6))),(.flt 4607182418800017408),(.flt 4607182418800017408)] none) =
   some (col (x.third y),[s0,s1,s2,s3,s4,s5,some (.val (.int (x.sixth y)))]):=by
 cases x <;> cases y <;> first | exact absurd rfl h | kernel_rfl
end
section
noncomputable def dm (D:List (Int × Co)):List (Int × PV):=D.map fun q => (q.1,col q.2)
noncomputable def lookC (k:Int):List (Int × Co) → Option Co
 | [] => none
 | (j,v) :: r => if decide (j = k) then some v else lookC k r
noncomputable def putC (k:Int) (v:Co):List (Int × Co) → List (Int × Co)
 | [] => [(k,v)]
 | (j,u) :: r => if decide (j = k) then (j,v) :: r else (j,u) :: putC k v r
theorem look_dm (k:Int):∀ D:List (Int × Co),lookI k (dm D) = (lookC k D).map col
 | [] => rfl
 | (j,v) :: r => by
  show (if decide (j = k) then some (col v) else lookI k (dm r)) = (if decide (j = k) then some v else lookC k r).map col
  rw [look_dm k r]
  split <;> rfl
theorem put_dm (k:Int) (c:Co):∀ D:List (Int × Co),putI k (col c) (dm D) = dm (putC k c D)
 | [] => rfl
 | (j,v) :: r => by
  show (if decide (j = k) then (j,col c) :: dm r else (j,col v) :: putI k (col c) (dm r)) = dm (if decide (j = k) then (j,c) :: r else (j,v) :: putC k c r)
  rw [put_dm k c r]
  split <;> rfl
theorem putC_len (k:Int) (c:Co):∀ D:List (Int × Co),(putC k c D).length ≤ D.length + 1
 | [] => Nat.le_refl _
 | (j,v) :: r => by
  have:=putC_len k c r
  show (if decide (j = k) then (j,c) :: r else (j,v) :: putC k c r).length ≤ _
  split
  ·exact Nat.le_succ _
  ·exact Nat.succ_le_succ this
theorem idx_dict (l:List (Int × PV)) (x:Int):idxop (.dict l) (.int x) = lookI x l:=rfl
noncomputable def body15:List S:=match fn15.body with | [.forn _ _ b,_] => b | _ => []
noncomputable def loop15 (C:Calls) (n:Nat):PV → Ev → Option (Fl × Ev):=fun v e => (unpV v).bind fun l => (setMany e [2,3,4] l).bind fun e => exB C n e body15
theorem exS_set {C:Calls} {n:Nat} {e e1 e2:Ev} {x:Nat} {a b:E} {v:PV} {i:Int} {l:List (Int × PV)} (h1:evE C n e b = some (v,e1)) (h2:evE C n e1 a = some (.int i,e2)) (h3:getS e2 x = some (.ownD l)) (h4:lim l.length = true):exS C (n + 1) e (.set x a b) = some (.next,setS e2 x (.ownD (putI i v l))):=by
 show (evE C n e b).bind _ = _
 rw [h1]
 show (evE C n e1 a).bind _ = _
 rw [h2]
 show (getS e2 x).bind _ = _
 rw [h3]
 show (if lim l.length = true then _ else _) = _
 rw [if_pos h4]
theorem turn15 (d n:Nat) (D:List (Int × Co)) (hD:D.length < 1000) (l t r:Int) (x y:Co) (hl:lookC l D = some x) (hr:lookC r D = some y) (hxy:x ≠ y) (s0 s2 s3 s4 s5 s6:Option Slot) :
  ∃ u5 u6,loop15 (callN FT (d + 1)) (n + 40) (.tup [.int l,.int t,.int r]) [s0,some (.ownD (dm D)),s2,s3,s4,s5,s6] = some (.next,[s0,some (.ownD (dm (putC t (x.third y) D))),some (.val (.int l)),some (.val (.int t)),some (.val (.int r)),u5,u6]):=by
 refine ⟨some (.val (.list ((x.mix y).map .flt))),some (.val (.int (x.sixth y))),?_⟩
 have hl':lookI l (dm D) = some (col x):=by rw [look_dm,hl];rfl
 have hr':lookI r (dm D) = some (col y):=by rw [look_dm,hr];rfl
 have hC:=mix_run d x y
 have g5:=fun n s0 s1 s2 s3 s4 s5 => third_run d n x y hxy s0 s1 s2 s3 s4 s5
 have g4:=fun n s0 s1 s2 s3 s4 s6 => sixth_run d n x y hxy s0 s1 s2 s3 s4 s6
 show exB (callN FT (d + 1)) (n + 40) [s0,some (.ownD (dm D)),some (.val (.int l)),some (.val (.int t)),some (.val (.int r)),s5,s6] [_,_,_] = _
 generalize callN FT (d + 1) = C at hC g4 g5
 generalize (x.mix y).map PV.flt = m at hC g4 g5
 generalize col x = cx at hl' hC
 generalize col y = cy at hr' hC
 refine (exB_next (e':=[s0,some (.ownD (dm D)),some (.val (.int l)),some (.val (.int t)),some (.val (.int r)),some (.val (.list m)),s6]) (xA (e1:=[s0,some (.ownD (dm D)),some (.val (.int l)),some (.val (.int t)),some (.val (.int r)),s5,s6]) (xK2 (xVi (s:=.ownD (dm D)) (y:=.int l) rfl rfl hl') (xVi (s:=.ownD (dm D)) (y:=.int r) rfl rfl hr') hC))).trans ?_
 refine (exB_next (exS_asg (g4 (n + 17) _ _ _ _ _ _))).trans ?_
 show exB C (n + 38) [s0,some (.ownD (dm D)),some (.val (.int l)),some (.val (.int t)),some (.val (.int r)),some (.val (.list m)),some (.val (.int (x.sixth y)))] [_] = _
 refine (exB_next (exS_set (g5 (n + 16) _ _ _ _ _ _) (show evE C (n + 36) _ (.var 3) = some (.int t,_) from rfl) (show getS [s0,some (.ownD (dm D)),some (.val (.int l)),some (.val (.int t)),some (.val (.int r)),some (.val (.list m)),some (.val (.int (x.sixth y)))] 1 = some (.ownD (dm D)) from rfl) (lim_of (by unfold dm;rw [List.length_map];lia)))).trans ?_
 rw [put_dm]
 rfl
noncomputable def paint:Row → List (Int × Co) → Option (List (Int × Co))
 | [],D => some D
 | q :: r,D => match lookC (q.1:Int) D,lookC (q.2.2:Int) D with
  | some x,some y => if x = y then none else paint r (putC (q.2.1:Int) (x.third y) D)
  | _,_ => none
theorem paint_c {q:Nat × Nat × Nat} {r:Row} {D:List (Int × Co)}:paint (q :: r) D = (match lookC (q.1:Int) D,lookC (q.2.2:Int) D with
 | some x,some y => if x = y then none else paint r (putC (q.2.1:Int) (x.third y) D)
 | _,_ => none):=rfl
theorem paint_loop (d n:Nat):∀ (R:Row) (D D':List (Int × Co)) (s0 s2 s3 s4 s5 s6:Option Slot),D.length + R.length < 1000 → paint R D = some D' →
  ∃ u2 u3 u4 u5 u6,loopF (loop15 (callN FT (d + 1)) (n + 40)) (rowV R) [s0,some (.ownD (dm D)),s2,s3,s4,s5,s6] = some (.next,[s0,some (.ownD (dm D')),u2,u3,u4,u5,u6])
 | [],D,D',s0,s2,s3,s4,s5,s6,_,h => by cases h;exact ⟨_,_,_,_,_,rfl⟩
 | q :: r,D,D',s0,s2,s3,s4,s5,s6,hl,h => by
  have hl:D.length + (r.length + 1) < 1000:=hl
  rw [paint_c] at h
  cases hx:lookC (q.1:Int) D with
  | none => rw [hx] at h;exact (nS h).elim
  | some x =>
   cases hy:lookC (q.2.2:Int) D with
   | none => rw [hx,hy] at h;exact (nS h).elim
   | some y =>
    rw [hx,hy] at h
    dsimp only at h
    by_cases hxy:x = y
    ·rw [if_pos hxy] at h;exact (nS h).elim
    ·rw [if_neg hxy] at h
     obtain ⟨u5,u6,st⟩:=turn15 d n D (by lia) (q.1:Int) (q.2.1:Int) (q.2.2:Int) x y hx hy hxy s0 s2 s3 s4 s5 s6
     have:=putC_len (q.2.1:Int) (x.third y) D
     obtain ⟨v2,v3,v4,v5,v6,h1⟩:=paint_loop d n r (putC (q.2.1:Int) (x.third y) D) D' s0 (some (.val (.int (q.1:Int)))) (some (.val (.int (q.2.1:Int)))) (some (.val (.int (q.2.2:Int)))) u5 u6 (by lia) h
     refine ⟨v2,v3,v4,v5,v6,?_⟩
     show loopF _ (.tup [.int (q.1:Int),.int (q.2.1:Int),.int (q.2.2:Int)] :: rowV r) _ = _
     rw [loopF_c,st]
     exact h1
theorem fn15_body:fn15.body = [.forn [2,3,4] (.val (.var 0)) body15,.ret (.var 1)]:=rfl
theorem paint_run (d:Nat) (R:Row) (D D':List (Int × Co)) (hl:D.length + R.length < 1000) (h:paint R D = some D'):callN FT (d + 2) 15 [.val (.list (rowV R)),.ownD (dm D)] = some (.dict (dm D')):=by
 rw [callN_eq (d + 1) 15 _ rfl]
 show out (exB (callN FT (d + 1)) 60 [some (.val (.list (rowV R))),some (.ownD (dm D)),none,none,none,none,none] fn15.body) = _
 rw [fn15_body]
 obtain ⟨u2,u3,u4,u5,u6,h1⟩:=paint_loop d 18 R D D' (some (.val (.list (rowV R)))) none none none none none hl h
 refine (congrArg out (exB_next (show exS (callN FT (d + 1)) 59 [some (.val (.list (rowV R))),some (.ownD (dm D)),none,none,none,none,none] (.forn [2,3,4] (.val (.var 0)) body15) = _ from h1))).trans ?_
 rfl
end
section
theorem getS_valsP {e:Ev} {i:Nat} {v:PV} (h:getS e i = some (.val v)):getS (vals e) i = some (.val v):=by
 unfold getS vals at *
 rw [List.getElem?_map]
 cases hq:e[i]? with
 | none => rw [hq] at h;exact (nS h).elim
 | some o => rw [hq] at h;cases o with | none => cases h | some s => cases h;rfl
noncomputable def e30:E:=.bin .div (.bin .add (.bin .add (.idx (.idxv 17 (.var 18)) (.var 30)) (.idx (.idxv 17 (.var 19)) (.var 30))) (.idx (.idxv 17 (.var 20)) (.var 30))) (.int (4))
theorem add_flt (a b:UInt64):binop .add (.flt a) (.flt b) = some (.flt (Float64.add a b)):=rfl
theorem f30 (C:Calls) (n:Nat) (e:Ev) (he:e.length = 31) (D:List (Int × PV)) (l t r k:Int) (lx ly lz:List PV) (a b c:UInt64) (g17:getS e 17 = some (.val (.dict D))) (g18:getS e 18 = some (.val (.int l))) (g19:getS e 19 = some (.val (.int t))) (g20:getS e 20 = some (.val (.int r)))
  (hl:lookI l D = some (.tup lx)) (ht:lookI t D = some (.tup ly)) (hr:lookI r D = some (.tup lz)) (ha:nth lx k = some (.flt a)) (hb:nth ly k = some (.flt b)) (hc:nth lz k = some (.flt c)) (q:PV) (hq:binop .div (.flt (Float64.add (Float64.add a b) c)) (.int 4) = some q) :
  selF C (n + 20) e e30 30 [] (.int k) = some (some q):=by
 have h17:getS (setS (vals e) 30 (.val (.int k))) 17 = some (.val (.dict D)):=by rw [getS_ne (by decide)];exact getS_valsP g17
 have h18:getS (setS (vals e) 30 (.val (.int k))) 18 = some (.val (.int l)):=by rw [getS_ne (by decide)];exact getS_valsP g18
 have h19:getS (setS (vals e) 30 (.val (.int k))) 19 = some (.val (.int t)):=by rw [getS_ne (by decide)];exact getS_valsP g19
 have h20:getS (setS (vals e) 30 (.val (.int k))) 20 = some (.val (.int r)):=by rw [getS_ne (by decide)];exact getS_valsP g20
 have h30:getS (setS (vals e) 30 (.val (.int k))) 30 = some (.val (.int k)):=getS_set (by rw [vals_len];lia)
 unfold selF
 generalize setS (vals e) 30 (.val (.int k)) = e' at *
 exact ob rfl (ob (xB (xB (xB (xX (xVi h17 (xV h18) hl) (xV h30) ha) (xX (xVi h17 (xV h19) ht) (xV h30) hb) rfl) (xX (xVi h17 (xV h20) hr) (xV h30) hc) rfl) rfl hq) rfl)
noncomputable def Co.at0 (c:Co):UInt64:=match c with | .r => one64 | _ => 0
noncomputable def Co.at1 (c:Co):UInt64:=match c with | .g => one64 | _ => 0
noncomputable def Co.at2 (c:Co):UInt64:=match c with | .b => one64 | _ => 0
theorem nth_c0 (c:Co):nth (c.fl.map .flt) 0 = some (.flt c.at0):=by cases c <;> rfl
theorem nth_c1 (c:Co):nth (c.fl.map .flt) 1 = some (.flt c.at1):=by cases c <;> rfl
theorem nth_c2 (c:Co):nth (c.fl.map .flt) 2 = some (.flt c.at2):=by cases c <;> rfl
theorem grey0 (x y z:Co) (h1:x ≠ y) (h2:x ≠ z) (h3:y ≠ z):binop .div (.flt (Float64.add (Float64.add x.at0 y.at0) z.at0)) (.int 4) = some (.flt quar64):=by
 cases x <;> cases y <;> first | exact absurd rfl h1 | (cases z <;> first | exact absurd rfl h2 | exact absurd rfl h3 | kernel_rfl)
theorem grey1 (x y z:Co) (h1:x ≠ y) (h2:x ≠ z) (h3:y ≠ z):binop .div (.flt (Float64.add (Float64.add x.at1 y.at1) z.at1)) (.int 4) = some (.flt quar64):=by
 cases x <;> cases y <;> first | exact absurd rfl h1 | (cases z <;> first | exact absurd rfl h2 | exact absurd rfl h3 | kernel_rfl)
theorem grey2 (x y z:Co) (h1:x ≠ y) (h2:x ≠ z) (h3:y ≠ z):binop .div (.flt (Float64.add (Float64.add x.at2 y.at2) z.at2)) (.int 4) = some (.flt quar64):=by
 cases x <;> cases y <;> first | exact absurd rfl h1 | (cases z <;> first | exact absurd rfl h2 | exact absurd rfl h3 | kernel_rfl)
theorem grey_hsv (d:Nat):callN FT (d + 1) 4 [.val (.flt quar64),.val (.flt quar64),.val (.flt quar64)] = some (.tup [.flt 0,.flt 0,.flt quar64]):=by kernel_rfl
theorem grey_eq:fltsEq [.flt 0,.flt 0,.flt quar64] [0,0,4598175219545276416] = some true:=by kernel_rfl
noncomputable def body17g:List S:=[.asg 21 (.comp e30 30 (.range (.int (3))) []),.ifs (.neF (.call 4 [(.idxv 21 (.int (0))),(.idxv 21 (.int (1))),(.idxv 21 (.int (2)))] none) none [0,0,4598175219545276416] []) [(.ret (.bool false))] []]
noncomputable def loop17g (C:Calls) (n:Nat):PV → Ev → Option (Fl × Ev):=fun v e => (unpV v).bind fun l => (setMany e [18,19,20] l).bind fun e => exB C n e body17g
theorem turn17g (d n:Nat) (e:Ev) (he:e.length = 31) (D:List (Int × Co)) (g17:getS e 17 = some (.val (.dict (dm D)))) (l t r:Int) (x y z:Co) (hl:lookC l D = some x) (ht:lookC t D = some y) (hr:lookC r D = some z) (h1:x ≠ y) (h2:x ≠ z) (h3:y ≠ z) :
  ∃ e',loop17g (callN FT (d + 1)) (n + 40) (.tup [.int l,.int t,.int r]) e = some (.next,e') ∧ Same [18,19,20,21] e e':=by
 have hl':lookI l (dm D) = some (.tup (x.fl.map .flt)):=by rw [look_dm,hl];rfl
 have ht':lookI t (dm D) = some (.tup (y.fl.map .flt)):=by rw [look_dm,ht];rfl
 have hr':lookI r (dm D) = some (.tup (z.fl.map .flt)):=by rw [look_dm,hr];rfl
 show ∃ e',exB (callN FT (d + 1)) (n + 40) (setS (setS (setS e 18 (.val (.int l))) 19 (.val (.int t))) 20 (.val (.int r))) body17g = some (.next,e') ∧ _
 generalize hE:setS (setS (setS e 18 (.val (.int l))) 19 (.val (.int t))) 20 (.val (.int r)) = e1
 have s1:Same [18,19,20,21] e e1:=by
  rw [← hE]
  exact ((Same.set _ (by simp)).trans (Same.set _ (by simp))).trans (Same.set _ (by simp))
 have len1:e1.length = 31:=by rw [s1.1,he]
 have k17:getS e1 17 = some (.val (.dict (dm D))):=by rw [s1.2 17 (by decide)];exact g17
 have k18:getS e1 18 = some (.val (.int l)):=by rw [← hE,getS_ne (by decide),getS_ne (by decide)];exact getS_set (by lia)
 have k19:getS e1 19 = some (.val (.int t)):=by rw [← hE,getS_ne (by decide)];exact getS_set (by rw [set_len];lia)
 have k20:getS e1 20 = some (.val (.int r)):=by rw [← hE];exact getS_set (by rw [set_len,set_len];lia)
 have hC:=grey_hsv d
 generalize callN FT (d + 1) = C at hC
 have q0:=f30 C (n + 17) e1 len1 (dm D) l t r 0 _ _ _ _ _ _ k17 k18 k19 k20 hl' ht' hr' (nth_c0 x) (nth_c0 y) (nth_c0 z) _ (grey0 x y z h1 h2 h3)
 have q1:=f30 C (n + 17) e1 len1 (dm D) l t r 1 _ _ _ _ _ _ k17 k18 k19 k20 hl' ht' hr' (nth_c1 x) (nth_c1 y) (nth_c1 z) _ (grey1 x y z h1 h2 h3)
 have q2:=f30 C (n + 17) e1 len1 (dm D) l t r 2 _ _ _ _ _ _ k17 k18 k19 k20 hl' ht' hr' (nth_c2 x) (nth_c2 y) (nth_c2 z) _ (grey2 x y z h1 h2 h3)
 have hr3:compL (selF C (n + 37) e1 e30 30 []) [.int 0,.int 1,.int 2] = some [.flt quar64,.flt quar64,.flt quar64]:=by
  exact compL_s q0 (compL_s q1 (compL_s q2 rfl))
 have hc:evE C (n + 38) e1 (.comp e30 30 (.range (.int (3))) []) = some (.list [.flt quar64,.flt quar64,.flt quar64],e1):=ev_comp (by rw [len1];rfl) (show evI C (n + 37) e1 (.range (.int 3)) = some ([.int 0,.int 1,.int 2],e1) from rfl) hr3 rfl rfl
 have g21:getS (setS e1 21 (.val (.list [.flt quar64,.flt quar64,.flt quar64]))) 21 = some (.val (.list [.flt quar64,.flt quar64,.flt quar64])):=getS_set (by lia)
 refine ⟨setS e1 21 (.val (.list [.flt quar64,.flt quar64,.flt quar64])),?_,s1.trans (Same.set _ (by simp))⟩
 rw [body17g,exB_next (exS_asg hc)]
 generalize setS e1 21 (.val (.list [.flt quar64,.flt quar64,.flt quar64])) = e2 at g21
 have ht:evT C (n + 37) e2 (.neF (.call 4 [(.idxv 21 (.int (0))),(.idxv 21 (.int (1))),(.idxv 21 (.int (2)))] none) none [0,0,4598175219545276416] []) = some (false,e2):=by
  exact ob (xK3 (xVi g21 rfl rfl) (xVi g21 rfl rfl) (xVi g21 rfl rfl) hC) (ob rfl (ob grey_eq rfl))
 refine (exB_next ((exS_if ht).trans (by rfl))).trans ?_
 rfl
noncomputable def Co.apart (D:List (Int × Co)) (q:Nat × Nat × Nat):Bool:=match lookC (q.1:Int) D,lookC (q.2.1:Int) D,lookC (q.2.2:Int) D with
 | some x,some y,some z => decide (x ≠ y) && decide (x ≠ z) && decide (y ≠ z)
 | _,_,_ => false
theorem grey_loop (d n:Nat) (D:List (Int × Co)):∀ (R:Row) (e:Ev),e.length = 31 → getS e 17 = some (.val (.dict (dm D))) → (∀ q ∈ R,Co.apart D q = true) → ∃ e',loopF (loop17g (callN FT (d + 1)) (n + 40)) (rowV R) e = some (.next,e') ∧ Same [18,19,20,21] e e'
 | [],e,_,_,_ => ⟨e,rfl,Same.refl _ _⟩
 | q :: r,e,he,g17,h => by
  have hq:=h q (.head _)
  unfold Co.apart at hq
  cases hx:lookC (q.1:Int) D with
  | none => rw [hx] at hq;exact (fT hq).elim
  | some x =>
   cases hy:lookC (q.2.1:Int) D with
   | none => rw [hx,hy] at hq;exact (fT hq).elim
   | some y =>
    cases hz:lookC (q.2.2:Int) D with
    | none => rw [hx,hy,hz] at hq;exact (fT hq).elim
    | some z =>
     rw [hx,hy,hz] at hq
     simp only [Bool.and_eq_true,decide_eq_true_eq] at hq
     obtain ⟨e1,h1,h2⟩:=turn17g d n e he D g17 (q.1:Int) (q.2.1:Int) (q.2.2:Int) x y z hx hy hz hq.1.1 hq.1.2 hq.2
     obtain ⟨e',h3,h4⟩:=grey_loop d n D r e1 (by rw [h2.1,he]) (by rw [h2.2 17 (by decide)];exact g17) fun q' hq' => h q' (.tail _ hq')
     refine ⟨e',?_,h2.trans h4⟩
     show loopF _ (.tup [.int (q.1:Int),.int (q.2.1:Int),.int (q.2.2:Int)] :: rowV r) e = _
     rw [loopF_c,h1]
     exact h3
end
section
noncomputable def Co.hue:Co → Co → UInt64
 | .r,.r => 0
 | .g,.g => 4599676419421066581
 | .b,.b => 4604180019048437077
 | .r,.g => 4595172819793696085
 | .g,.r => 4595172819793696085
 | .r,.b => 4605681218924227243
 | .b,.r => 4605681218924227243
 | .g,.b => 4602678819172646912
 | .b,.g => 4602678819172646912
noncomputable def Co.lig (x y:Co):UInt64:=if x = y then half64 else quar64
noncomputable def Co.m0 (x y:Co):UInt64:=(x.mix y).getD 0 0
noncomputable def Co.m1 (x y:Co):UInt64:=(x.mix y).getD 1 0
noncomputable def Co.m2 (x y:Co):UInt64:=(x.mix y).getD 2 0
theorem mix_eq (x y:Co):(x.mix y).map PV.flt = [.flt (x.m0 y),.flt (x.m1 y),.flt (x.m2 y)]:=by cases x <;> cases y <;> rfl
theorem tone_run (d:Nat) (x y:Co):callN FT (d + 1) 3 [.val (.flt (x.m0 y)),.val (.flt (x.m1 y)),.val (.flt (x.m2 y))] = some (.tup [.flt (x.hue y),.flt (x.lig y),.flt one64]):=by
 cases x <;> cases y <;> kernel_rfl
theorem tone_eq (x y:Co) (c:Bool) (h:c = decide (x ≠ y)):fltsEq [.flt (x.lig y),.flt one64] (if c then [4598175219545276416,4607182418800017408] else [4602678819172646912,4607182418800017408]) = some true:=by
 subst h
 cases x <;> cases y <;> kernel_rfl
noncomputable def body17t:List S:=[.asg 25 (.call 14 [(.idxv 17 (.var 22)),(.idxv 17 (.var 24))] none),.asg 26 (.call 3 [(.idxv 25 (.int (0))),(.idxv 25 (.int (1))),(.idxv 25 (.int (2)))] none),
 .ifs (.neF (.slc (.var 26) (some (.int (1))) none) (some (.cmp .eq (.bin .mod (.idxv 23 (.bin .sub (.bin .sub (.var 24) (.var 22)) (.int (1)))) (.int (2))) (.int (1)))) [4598175219545276416,4607182418800017408] [4602678819172646912,4607182418800017408]) [(.ret (.bool false))] []]
theorem slc_t (a b c:PV):slcop (.tup [a,b,c]) (some (.int 1)) none = some (.tup [b,c]):=rfl
theorem sub_int {a b:Int} (ha:small a = true) (hb:small b = true):binop .sub (.int a) (.int b) = some (.int (a - b)):=by
 show (if (small a && small b) = true then _ else _) = _
 rw [ha,hb];rfl
theorem mod_two (a:Int):binop .mod (.int a) (.int 2) = some (.int (a.fmod 2)):=rfl
theorem turn17t (d n:Nat) (e:Ev) (he:e.length = 31) (D:List (Int × Co)) (cs:List PV) (lo hi cnt:Int) (x y:Co) (g17:getS e 17 = some (.val (.dict (dm D)))) (g22:getS e 22 = some (.val (.int lo))) (g23:getS e 23 = some (.val (.list cs))) (g24:getS e 24 = some (.val (.int hi)))
  (hl:lookC lo D = some x) (hh:lookC hi D = some y) (hs1:small lo = true) (hs2:small hi = true) (hs3:small (hi - lo) = true) (hn:nth cs (hi - lo - 1) = some (.int cnt)) (hc:decide (cnt.fmod 2 = 1) = decide (x ≠ y)) :
  ∃ e',exB (callN FT (d + 1)) (n + 25) e body17t = some (.next,e') ∧ Same [25,26] e e':=by
 have hl':lookI lo (dm D) = some (col x):=by rw [look_dm,hl];rfl
 have hh':lookI hi (dm D) = some (col y):=by rw [look_dm,hh];rfl
 have hC:=mix_run d x y
 have hC2:=tone_run d x y
 have hT:=tone_eq x y _ hc
 rw [mix_eq] at hC
 generalize callN FT (d + 1) = C at hC hC2
 generalize col x = cx at hl' hC
 generalize col y = cy at hh' hC
 generalize x.lig y = lg at hC2 hT
 generalize x.hue y = hu at hC2
 generalize x.m0 y = a0 at hC hC2
 generalize x.m1 y = a1 at hC hC2
 generalize x.m2 y = a2 at hC hC2
 have w1:evE C (n + 23) e (.call 14 [(.idxv 17 (.var 22)),(.idxv 17 (.var 24))] none) = some (.list [.flt a0,.flt a1,.flt a2],e):=by
  exact xK2 (xVi g17 (xV g22) hl') (xVi g17 (xV g24) hh') hC
 have k25:getS (setS e 25 (.val (.list [.flt a0,.flt a1,.flt a2]))) 25 = some (.val (.list [.flt a0,.flt a1,.flt a2])):=getS_set (by lia)
 have w2:evE C (n + 22) (setS e 25 (.val (.list [.flt a0,.flt a1,.flt a2]))) (.call 3 [(.idxv 25 (.int (0))),(.idxv 25 (.int (1))),(.idxv 25 (.int (2)))] none) = some (.tup [.flt hu,.flt lg,.flt one64],setS e 25 (.val (.list [.flt a0,.flt a1,.flt a2]))):=by
  exact xK3 (xVi k25 rfl rfl) (xVi k25 rfl rfl) (xVi k25 rfl rfl) hC2
 have s2:Same [25,26] e (setS (setS e 25 (.val (.list [.flt a0,.flt a1,.flt a2]))) 26 (.val (.tup [.flt hu,.flt lg,.flt one64]))):=(Same.set _ (by simp)).trans (Same.set _ (by simp))
 have k26:getS (setS (setS e 25 (.val (.list [.flt a0,.flt a1,.flt a2]))) 26 (.val (.tup [.flt hu,.flt lg,.flt one64]))) 26 = some (.val (.tup [.flt hu,.flt lg,.flt one64])):=getS_set (by rw [set_len];lia)
 refine ⟨setS (setS e 25 (.val (.list [.flt a0,.flt a1,.flt a2]))) 26 (.val (.tup [.flt hu,.flt lg,.flt one64])),?_,s2⟩
 rw [body17t,exB_next (exS_asg w1),exB_next (exS_asg w2)]
 generalize setS (setS e 25 (.val (.list [.flt a0,.flt a1,.flt a2]))) 26 (.val (.tup [.flt hu,.flt lg,.flt one64])) = e2 at s2 k26
 have j22:getS e2 22 = some (.val (.int lo)):=by rw [s2.2 22 (by decide)];exact g22
 have j23:getS e2 23 = some (.val (.list cs)):=by rw [s2.2 23 (by decide)];exact g23
 have j24:getS e2 24 = some (.val (.int hi)):=by rw [s2.2 24 (by decide)];exact g24
 have hb1:=sub_int hs2 hs1
 have hb2:=sub_int hs3 (show small 1 = true by decide)
 have x1:evE C (n + 20) e2 (.slc (.var 26) (some (.int (1))) none) = some (.tup [.flt lg,.flt one64],e2):=by
  exact xS (xV k26) (xO rfl) rfl (slc_t _ _ _)
 have x2:evT C (n + 20) e2 (.cmp .eq (.bin .mod (.idxv 23 (.bin .sub (.bin .sub (.var 24) (.var 22)) (.int (1)))) (.int (2))) (.int (1))) = some (decide (cnt.fmod 2 = 1),e2):=by
  exact xT (xB (xVi j23 (xB (xB (xV j24) (xV j22) hb1) rfl hb2) hn) rfl (mod_two _)) rfl rfl
 have ht:evT C (n + 21) e2 (.neF (.slc (.var 26) (some (.int (1))) none) (some (.cmp .eq (.bin .mod (.idxv 23 (.bin .sub (.bin .sub (.var 24) (.var 22)) (.int (1)))) (.int (2))) (.int (1)))) [4598175219545276416,4607182418800017408] [4602678819172646912,4607182418800017408]) = some (false,e2):=by
  show (evE C (n + 20) e2 (.slc (.var 26) (some (.int (1))) none)).bind _ = _
  rw [x1]
  show (evT C (n + 20) e2 _).bind _ = _
  rw [x2]
  show (fltsEq _ _).bind _ = _
  rw [hT]
  rfl
 refine (exB_next ((exS_if ht).trans (by rfl))).trans ?_
 rfl
noncomputable def tonesOk (D:List (Int × Co)) (lo:Nat):Nat → List Int → Bool
 | _,[] => true
 | hi,c :: r => (match lookC (lo:Int) D,lookC (hi:Int) D with
  | some x,some y => decide (c.fmod 2 = 1) == decide (x ≠ y)
  | _,_ => false) && tonesOk D lo (hi + 1) r
theorem tones_get:∀ (cs:List Int) (D:List (Int × Co)) (lo hi:Nat),tonesOk D lo hi cs = true → ∀ (k:Nat) (c:Int),cs[k]? = some c → ∃ x y,lookC (lo:Int) D = some x ∧ lookC ((hi + k:Nat):Int) D = some y ∧ decide (c.fmod 2 = 1) = decide (x ≠ y)
 | [],_,_,_,_,k,c,h => by exact (nS h).elim
 | c :: r,D,lo,hi,ho,k,c',h => by
  obtain ⟨h1,h2⟩:=and_2 ho
  cases k with
  | zero =>
   cases h
   cases hx:lookC (lo:Int) D with
   | none => rw [hx] at h1;exact (fT h1).elim
   | some x =>
    cases hy:lookC (hi:Int) D with
    | none => rw [hx,hy] at h1;exact (fT h1).elim
    | some y =>
     rw [hx,hy] at h1
     exact ⟨x,y,rfl,rfl,eq_of_beq h1⟩
  | succ k =>
   obtain ⟨x,y,h3,h4,h5⟩:=tones_get r D lo (hi + 1) h2 k c' h
   exact ⟨x,y,h3,by rw [show hi + (k + 1) = hi + 1 + k by lia];exact h4,h5⟩
theorem tone_loop (d n:Nat) (D:List (Int × Co)) (cs:List Int) (lo:Nat) (hlo:lo < 1000) (ho:tonesOk D lo (lo + 1) cs = true) (hcs:cs.length < 1000):∀ (k j:Nat) (e:Ev),j + k = cs.length → e.length = 31 → getS e 17 = some (.val (.dict (dm D))) → getS e 22 = some (.val (.int (lo:Nat))) → getS e 23 = some (.val (.list (cs.map .int))) →
  ∃ e',loopF (fun v e => exB (callN FT (d + 1)) (n + 25) (setS e 24 (.val v)) body17t) (rangeI ((lo + 1 + j:Nat):Int) k) e = some (.next,e') ∧ Same [24,25,26] e e'
 | 0,_,e,_,_,_,_,_ => ⟨e,rfl,Same.refl _ _⟩
 | k + 1,j,e,hk,he,g17,g22,g23 => by
  obtain ⟨c,hc⟩:∃ c,cs[j]? = some c:=⟨_,List.getElem?_eq_getElem (by lia)⟩
  obtain ⟨x,y,hx,hy,hp⟩:=tones_get cs D lo (lo + 1) ho j c hc
  have sm:∀ k:Nat,k < 30000 → small (k:Int) = true:=fun k hk => small_nat (k:=k) (by first | rfl | lia) (by lia)
  have hd1:((lo + 1 + j:Nat):Int) - (lo:Nat) = ((j + 1:Nat):Int):=by lia
  have hd2:((lo + 1 + j:Nat):Int) - (lo:Nat) - 1 = ((j:Nat):Int):=by lia
  have hn:nth (cs.map .int) (((lo + 1 + j:Nat):Int) - (lo:Nat) - 1) = some (.int c):=by
   rw [hd2];exact nth_nat (by rw [List.getElem?_map,hc];rfl) (by lia)
  obtain ⟨e1,h1,h2⟩:=turn17t d n (setS e 24 (.val (.int ((lo + 1 + j:Nat):Int)))) (by rw [set_len,he]) D (cs.map .int) (lo:Nat) ((lo + 1 + j:Nat):Int) c x y (by rw [getS_ne (by decide)];exact g17) (by rw [getS_ne (by decide)];exact g22) (by rw [getS_ne (by decide)];exact g23) (getS_set (by lia)) hx hy (sm _ (by lia)) (sm _ (by lia)) (by rw [hd1];exact sm _ (by lia)) hn hp
  have hs:Same [24,25,26] e e1:=(Same.set _ (by simp)).trans (h2.mono (by simp))
  obtain ⟨e',h3,h4⟩:=tone_loop d n D cs lo hlo ho hcs k (j + 1) e1 (by lia) (by rw [hs.1,he]) (by rw [hs.2 17 (by decide)];exact g17) (by rw [hs.2 22 (by decide)];exact g22) (by rw [hs.2 23 (by decide)];exact g23)
  refine ⟨e',?_,hs.trans h4⟩
  show loopF _ (.int ((lo + 1 + j:Nat):Int) :: rangeI (((lo + 1 + j:Nat):Int) + 1) k) e = _
  rw [loopF_c,h1]
  rw [show ((lo + 1 + (j + 1):Nat):Int) = ((lo + 1 + j:Nat):Int) + 1 by lia] at h3
  exact h3
end
section
noncomputable def sizeT:Tr3 → Nat
 | .l => 0
 | .n a b => sizeT a + sizeT b + 1
noncomputable def shapesF:Nat → Nat → List Tr3
 | 0,_ => []
 | _ + 1,0 => [.l]
 | f + 1,n + 1 => (List.range (n + 1)).flatMap fun i => (shapesF f i).flatMap fun a => (shapesF f (n - i)).map (Tr3.n a)
theorem size_lvs:∀ s:Tr3,s.lvs = sizeT s + 1
 | .l => rfl
 | .n a b => by
  have h1:=size_lvs a
  have h2:=size_lvs b
  show a.lvs + b.lvs = sizeT a + sizeT b + 1 + 1
  lia
theorem mem_shapes:∀ (f:Nat) (s:Tr3),sizeT s < f → s ∈ shapesF f (sizeT s)
 | 0,_,h => absurd h (Nat.not_lt_zero _)
 | f + 1,.l,_ => .head _
 | f + 1,.n a b,h => by
  have h:sizeT a + sizeT b + 1 < f + 1:=h
  have h1:=mem_shapes f a (by lia)
  have h2:=mem_shapes f b (by lia)
  show Tr3.n a b ∈ (List.range (sizeT a + sizeT b + 1)).flatMap fun i => (shapesF f i).flatMap fun x => (shapesF f (sizeT a + sizeT b - i)).map (Tr3.n x)
  refine List.mem_flatMap.mpr ⟨sizeT a,List.mem_range.mpr (by lia),List.mem_flatMap.mpr ⟨a,h1,?_⟩⟩
  rw [show sizeT a + sizeT b - sizeT a = sizeT b by lia]
  exact List.mem_map_of_mem h2
noncomputable def cntQ (r:Option PV) (cs:List Int):Bool:=match r with
 | some (.list l) => intsOf l == some cs
 | _ => false
noncomputable def cntP (R:Row) (last lo:Nat) (cs:List Int):Bool:=cntQ (callN FT 11 16 [.val (.list (rowV R)),.val (.int (lo:Nat)),.val (.int (last:Nat))]) cs
noncomputable def cntsP (R:Row) (last:Nat):Nat → List (List Int) → Bool
 | _,[] => true
 | lo,cs :: r => cntP R last lo cs && cntsP R last (lo + 1) r
noncomputable def pairsCo:List (Co × Co):=[(.r,.g),(.r,.b),(.g,.r),(.g,.b),(.b,.r),(.b,.g)]
noncomputable def tonesAll (D:List (Int × Co)):Nat → List (List Int) → Bool
 | _,[] => true
 | lo,cs :: r => tonesOk D lo (lo + 1) cs && tonesAll D (lo + 1) r
noncomputable def goodOne (s:Tr3) (css:List (List Int)) (p:Co × Co):Bool:=match paint (tri 0 s) [(0,p.1),((s.lvs:Nat),p.2)] with
 | some D => (tri 0 s).all (Co.apart D) && tonesAll D 0 css
 | none => false
noncomputable def lensOk (n:Nat):Nat → List (List Int) → Bool
 | _,[] => true
 | lo,cs :: r => Nat.beq (cs.length + lo) n && lensOk n (lo + 1) r
noncomputable def goodAll (s:Tr3) (css:List (List Int)):Bool:=pairsCo.all (goodOne s css) && Nat.beq css.length s.lvs && lensOk s.lvs 0 css
noncomputable def okS (s:Tr3) (css:List (List Int)):Bool:=cntsP (tri 0 s) s.lvs 0 css && goodAll s css
end
section
noncomputable def sh0:Tr3:=(.n .l (.n .l (.n .l (.n .l .l))))
noncomputable def ct0:List (List Int):=[[1,2,3,4,1],[1,2,3,1],[1,2,1],[1,1],[1]]
theorem ck0:okS sh0 ct0 = true:=by kernel_rfl
noncomputable def sh1:Tr3:=(.n .l (.n .l (.n (.n .l .l) .l)))
noncomputable def ct1:List (List Int):=[[1,2,5,3,1],[1,3,2,1],[1,1,1],[1,2],[1]]
theorem ck1:okS sh1 ct1 = true:=by kernel_rfl
noncomputable def sh2:Tr3:=(.n .l (.n (.n .l .l) (.n .l .l)))
noncomputable def ct2:List (List Int):=[[1,3,2,3,1],[1,1,2,1],[1,3,2],[1,1],[1]]
theorem ck2:okS sh2 ct2 = true:=by kernel_rfl
noncomputable def sh3:Tr3:=(.n .l (.n (.n .l (.n .l .l)) .l))
noncomputable def ct3:List (List Int):=[[1,3,5,2,1],[1,2,1,1],[1,1,2],[1,3],[1]]
theorem ck3:okS sh3 ct3 = true:=by kernel_rfl
noncomputable def sh4:Tr3:=(.n .l (.n (.n (.n .l .l) .l) .l))
noncomputable def ct4:List (List Int):=[[1,4,3,2,1],[1,1,1,1],[1,2,3],[1,2],[1]]
theorem ck4:okS sh4 ct4 = true:=by kernel_rfl
noncomputable def sh5:Tr3:=(.n (.n .l .l) (.n .l (.n .l .l)))
noncomputable def ct5:List (List Int):=[[1,1,2,3,1],[1,3,5,2],[1,2,1],[1,1],[1]]
theorem ck5:okS sh5 ct5 = true:=by kernel_rfl
noncomputable def sh6:Tr3:=(.n (.n .l .l) (.n (.n .l .l) .l))
noncomputable def ct6:List (List Int):=[[1,1,3,2,1],[1,4,3,2],[1,1,1],[1,2],[1]]
theorem ck6:okS sh6 ct6 = true:=by kernel_rfl
noncomputable def sh7:Tr3:=(.n (.n .l (.n .l .l)) (.n .l .l))
noncomputable def ct7:List (List Int):=[[1,2,1,2,1],[1,1,3,2],[1,4,3],[1,1],[1]]
theorem ck7:okS sh7 ct7 = true:=by kernel_rfl
noncomputable def sh8:Tr3:=(.n (.n (.n .l .l) .l) (.n .l .l))
noncomputable def ct8:List (List Int):=[[1,1,1,2,1],[1,2,5,3],[1,3,2],[1,1],[1]]
theorem ck8:okS sh8 ct8 = true:=by kernel_rfl
noncomputable def sh9:Tr3:=(.n (.n .l (.n .l (.n .l .l))) .l)
noncomputable def ct9:List (List Int):=[[1,2,3,1,1],[1,2,1,2],[1,1,3],[1,4],[1]]
theorem ck9:okS sh9 ct9 = true:=by kernel_rfl
noncomputable def sh10:Tr3:=(.n (.n .l (.n (.n .l .l) .l)) .l)
noncomputable def ct10:List (List Int):=[[1,3,2,1,1],[1,1,1,2],[1,2,5],[1,3],[1]]
theorem ck10:okS sh10 ct10 = true:=by kernel_rfl
noncomputable def sh11:Tr3:=(.n (.n (.n .l .l) (.n .l .l)) .l)
noncomputable def ct11:List (List Int):=[[1,1,2,1,1],[1,3,2,3],[1,1,2],[1,3],[1]]
theorem ck11:okS sh11 ct11 = true:=by kernel_rfl
noncomputable def sh12:Tr3:=(.n (.n (.n .l (.n .l .l)) .l) .l)
noncomputable def ct12:List (List Int):=[[1,2,1,1,1],[1,1,2,3],[1,3,5],[1,2],[1]]
theorem ck12:okS sh12 ct12 = true:=by kernel_rfl
noncomputable def sh13:Tr3:=(.n (.n (.n (.n .l .l) .l) .l) .l)
noncomputable def ct13:List (List Int):=[[1,1,1,1,1],[1,2,3,4],[1,2,3],[1,2],[1]]
theorem ck13:okS sh13 ct13 = true:=by kernel_rfl
noncomputable def sh14:Tr3:=(.n .l (.n .l (.n .l (.n .l (.n .l .l)))))
noncomputable def ct14:List (List Int):=[[1,2,3,4,5,1],[1,2,3,4,1],[1,2,3,1],[1,2,1],[1,1],[1]]
theorem ck14:okS sh14 ct14 = true:=by kernel_rfl
noncomputable def sh15:Tr3:=(.n .l (.n .l (.n .l (.n (.n .l .l) .l))))
noncomputable def ct15:List (List Int):=[[1,2,3,7,4,1],[1,2,5,3,1],[1,3,2,1],[1,1,1],[1,2],[1]]
theorem ck15:okS sh15 ct15 = true:=by kernel_rfl
noncomputable def sh16:Tr3:=(.n .l (.n .l (.n (.n .l .l) (.n .l .l))))
noncomputable def ct16:List (List Int):=[[1,2,5,3,4,1],[1,3,2,3,1],[1,1,2,1],[1,3,2],[1,1],[1]]
theorem ck16:okS sh16 ct16 = true:=by kernel_rfl
noncomputable def sh17:Tr3:=(.n .l (.n .l (.n (.n .l (.n .l .l)) .l)))
noncomputable def ct17:List (List Int):=[[1,2,5,8,3,1],[1,3,5,2,1],[1,2,1,1],[1,1,2],[1,3],[1]]
theorem ck17:okS sh17 ct17 = true:=by kernel_rfl
noncomputable def sh18:Tr3:=(.n .l (.n .l (.n (.n (.n .l .l) .l) .l)))
noncomputable def ct18:List (List Int):=[[1,2,7,5,3,1],[1,4,3,2,1],[1,1,1,1],[1,2,3],[1,2],[1]]
theorem ck18:okS sh18 ct18 = true:=by kernel_rfl
noncomputable def sh19:Tr3:=(.n .l (.n (.n .l .l) (.n .l (.n .l .l))))
noncomputable def ct19:List (List Int):=[[1,3,2,3,4,1],[1,1,2,3,1],[1,3,5,2],[1,2,1],[1,1],[1]]
theorem ck19:okS sh19 ct19 = true:=by kernel_rfl
noncomputable def sh20:Tr3:=(.n .l (.n (.n .l .l) (.n (.n .l .l) .l)))
noncomputable def ct20:List (List Int):=[[1,3,2,5,3,1],[1,1,3,2,1],[1,4,3,2],[1,1,1],[1,2],[1]]
theorem ck20:okS sh20 ct20 = true:=by kernel_rfl
noncomputable def sh21:Tr3:=(.n .l (.n (.n .l (.n .l .l)) (.n .l .l)))
noncomputable def ct21:List (List Int):=[[1,3,5,2,3,1],[1,2,1,2,1],[1,1,3,2],[1,4,3],[1,1],[1]]
theorem ck21:okS sh21 ct21 = true:=by kernel_rfl
noncomputable def sh22:Tr3:=(.n .l (.n (.n (.n .l .l) .l) (.n .l .l)))
noncomputable def ct22:List (List Int):=[[1,4,3,2,3,1],[1,1,1,2,1],[1,2,5,3],[1,3,2],[1,1],[1]]
theorem ck22:okS sh22 ct22 = true:=by kernel_rfl
noncomputable def sh23:Tr3:=(.n .l (.n (.n .l (.n .l (.n .l .l))) .l))
noncomputable def ct23:List (List Int):=[[1,3,5,7,2,1],[1,2,3,1,1],[1,2,1,2],[1,1,3],[1,4],[1]]
theorem ck23:okS sh23 ct23 = true:=by kernel_rfl
noncomputable def sh24:Tr3:=(.n .l (.n (.n .l (.n (.n .l .l) .l)) .l))
noncomputable def ct24:List (List Int):=[[1,3,8,5,2,1],[1,3,2,1,1],[1,1,1,2],[1,2,5],[1,3],[1]]
theorem ck24:okS sh24 ct24 = true:=by kernel_rfl
noncomputable def sh25:Tr3:=(.n .l (.n (.n (.n .l .l) (.n .l .l)) .l))
noncomputable def ct25:List (List Int):=[[1,4,3,5,2,1],[1,1,2,1,1],[1,3,2,3],[1,1,2],[1,3],[1]]
theorem ck25:okS sh25 ct25 = true:=by kernel_rfl
noncomputable def sh26:Tr3:=(.n .l (.n (.n (.n .l (.n .l .l)) .l) .l))
noncomputable def ct26:List (List Int):=[[1,4,7,3,2,1],[1,2,1,1,1],[1,1,2,3],[1,3,5],[1,2],[1]]
theorem ck26:okS sh26 ct26 = true:=by kernel_rfl
noncomputable def sh27:Tr3:=(.n .l (.n (.n (.n (.n .l .l) .l) .l) .l))
noncomputable def ct27:List (List Int):=[[1,5,4,3,2,1],[1,1,1,1,1],[1,2,3,4],[1,2,3],[1,2],[1]]
theorem ck27:okS sh27 ct27 = true:=by kernel_rfl
noncomputable def sh28:Tr3:=(.n (.n .l .l) (.n .l (.n .l (.n .l .l))))
noncomputable def ct28:List (List Int):=[[1,1,2,3,4,1],[1,3,5,7,2],[1,2,3,1],[1,2,1],[1,1],[1]]
theorem ck28:okS sh28 ct28 = true:=by kernel_rfl
noncomputable def sh29:Tr3:=(.n (.n .l .l) (.n .l (.n (.n .l .l) .l)))
noncomputable def ct29:List (List Int):=[[1,1,2,5,3,1],[1,3,8,5,2],[1,3,2,1],[1,1,1],[1,2],[1]]
theorem ck29:okS sh29 ct29 = true:=by kernel_rfl
noncomputable def sh30:Tr3:=(.n (.n .l .l) (.n (.n .l .l) (.n .l .l)))
noncomputable def ct30:List (List Int):=[[1,1,3,2,3,1],[1,4,3,5,2],[1,1,2,1],[1,3,2],[1,1],[1]]
theorem ck30:okS sh30 ct30 = true:=by kernel_rfl
noncomputable def sh31:Tr3:=(.n (.n .l .l) (.n (.n .l (.n .l .l)) .l))
noncomputable def ct31:List (List Int):=[[1,1,3,5,2,1],[1,4,7,3,2],[1,2,1,1],[1,1,2],[1,3],[1]]
theorem ck31:okS sh31 ct31 = true:=by kernel_rfl
noncomputable def sh32:Tr3:=(.n (.n .l .l) (.n (.n (.n .l .l) .l) .l))
noncomputable def ct32:List (List Int):=[[1,1,4,3,2,1],[1,5,4,3,2],[1,1,1,1],[1,2,3],[1,2],[1]]
theorem ck32:okS sh32 ct32 = true:=by kernel_rfl
noncomputable def sh33:Tr3:=(.n (.n .l (.n .l .l)) (.n .l (.n .l .l)))
noncomputable def ct33:List (List Int):=[[1,2,1,2,3,1],[1,1,3,5,2],[1,4,7,3],[1,2,1],[1,1],[1]]
theorem ck33:okS sh33 ct33 = true:=by kernel_rfl
noncomputable def sh34:Tr3:=(.n (.n .l (.n .l .l)) (.n (.n .l .l) .l))
noncomputable def ct34:List (List Int):=[[1,2,1,3,2,1],[1,1,4,3,2],[1,5,4,3],[1,1,1],[1,2],[1]]
theorem ck34:okS sh34 ct34 = true:=by kernel_rfl
noncomputable def sh35:Tr3:=(.n (.n (.n .l .l) .l) (.n .l (.n .l .l)))
noncomputable def ct35:List (List Int):=[[1,1,1,2,3,1],[1,2,5,8,3],[1,3,5,2],[1,2,1],[1,1],[1]]
theorem ck35:okS sh35 ct35 = true:=by kernel_rfl
noncomputable def sh36:Tr3:=(.n (.n (.n .l .l) .l) (.n (.n .l .l) .l))
noncomputable def ct36:List (List Int):=[[1,1,1,3,2,1],[1,2,7,5,3],[1,4,3,2],[1,1,1],[1,2],[1]]
theorem ck36:okS sh36 ct36 = true:=by kernel_rfl
noncomputable def sh37:Tr3:=(.n (.n .l (.n .l (.n .l .l))) (.n .l .l))
noncomputable def ct37:List (List Int):=[[1,2,3,1,2,1],[1,2,1,3,2],[1,1,4,3],[1,5,4],[1,1],[1]]
theorem ck37:okS sh37 ct37 = true:=by kernel_rfl
noncomputable def sh38:Tr3:=(.n (.n .l (.n (.n .l .l) .l)) (.n .l .l))
noncomputable def ct38:List (List Int):=[[1,3,2,1,2,1],[1,1,1,3,2],[1,2,7,5],[1,4,3],[1,1],[1]]
theorem ck38:okS sh38 ct38 = true:=by kernel_rfl
noncomputable def sh39:Tr3:=(.n (.n (.n .l .l) (.n .l .l)) (.n .l .l))
noncomputable def ct39:List (List Int):=[[1,1,2,1,2,1],[1,3,2,5,3],[1,1,3,2],[1,4,3],[1,1],[1]]
theorem ck39:okS sh39 ct39 = true:=by kernel_rfl
noncomputable def sh40:Tr3:=(.n (.n (.n .l (.n .l .l)) .l) (.n .l .l))
noncomputable def ct40:List (List Int):=[[1,2,1,1,2,1],[1,1,2,5,3],[1,3,8,5],[1,3,2],[1,1],[1]]
theorem ck40:okS sh40 ct40 = true:=by kernel_rfl
noncomputable def sh41:Tr3:=(.n (.n (.n (.n .l .l) .l) .l) (.n .l .l))
noncomputable def ct41:List (List Int):=[[1,1,1,1,2,1],[1,2,3,7,4],[1,2,5,3],[1,3,2],[1,1],[1]]
theorem ck41:okS sh41 ct41 = true:=by kernel_rfl
noncomputable def sh42:Tr3:=(.n (.n .l (.n .l (.n .l (.n .l .l)))) .l)
noncomputable def ct42:List (List Int):=[[1,2,3,4,1,1],[1,2,3,1,2],[1,2,1,3],[1,1,4],[1,5],[1]]
theorem ck42:okS sh42 ct42 = true:=by kernel_rfl
noncomputable def sh43:Tr3:=(.n (.n .l (.n .l (.n (.n .l .l) .l))) .l)
noncomputable def ct43:List (List Int):=[[1,2,5,3,1,1],[1,3,2,1,2],[1,1,1,3],[1,2,7],[1,4],[1]]
theorem ck43:okS sh43 ct43 = true:=by kernel_rfl
noncomputable def sh44:Tr3:=(.n (.n .l (.n (.n .l .l) (.n .l .l))) .l)
noncomputable def ct44:List (List Int):=[[1,3,2,3,1,1],[1,1,2,1,2],[1,3,2,5],[1,1,3],[1,4],[1]]
theorem ck44:okS sh44 ct44 = true:=by kernel_rfl
noncomputable def sh45:Tr3:=(.n (.n .l (.n (.n .l (.n .l .l)) .l)) .l)
noncomputable def ct45:List (List Int):=[[1,3,5,2,1,1],[1,2,1,1,2],[1,1,2,5],[1,3,8],[1,3],[1]]
theorem ck45:okS sh45 ct45 = true:=by kernel_rfl
noncomputable def sh46:Tr3:=(.n (.n .l (.n (.n (.n .l .l) .l) .l)) .l)
noncomputable def ct46:List (List Int):=[[1,4,3,2,1,1],[1,1,1,1,2],[1,2,3,7],[1,2,5],[1,3],[1]]
theorem ck46:okS sh46 ct46 = true:=by kernel_rfl
noncomputable def sh47:Tr3:=(.n (.n (.n .l .l) (.n .l (.n .l .l))) .l)
noncomputable def ct47:List (List Int):=[[1,1,2,3,1,1],[1,3,5,2,3],[1,2,1,2],[1,1,3],[1,4],[1]]
theorem ck47:okS sh47 ct47 = true:=by kernel_rfl
noncomputable def sh48:Tr3:=(.n (.n (.n .l .l) (.n (.n .l .l) .l)) .l)
noncomputable def ct48:List (List Int):=[[1,1,3,2,1,1],[1,4,3,2,3],[1,1,1,2],[1,2,5],[1,3],[1]]
theorem ck48:okS sh48 ct48 = true:=by kernel_rfl
noncomputable def sh49:Tr3:=(.n (.n (.n .l (.n .l .l)) (.n .l .l)) .l)
noncomputable def ct49:List (List Int):=[[1,2,1,2,1,1],[1,1,3,2,3],[1,4,3,5],[1,1,2],[1,3],[1]]
theorem ck49:okS sh49 ct49 = true:=by kernel_rfl
noncomputable def sh50:Tr3:=(.n (.n (.n (.n .l .l) .l) (.n .l .l)) .l)
noncomputable def ct50:List (List Int):=[[1,1,1,2,1,1],[1,2,5,3,4],[1,3,2,3],[1,1,2],[1,3],[1]]
theorem ck50:okS sh50 ct50 = true:=by kernel_rfl
noncomputable def sh51:Tr3:=(.n (.n (.n .l (.n .l (.n .l .l))) .l) .l)
noncomputable def ct51:List (List Int):=[[1,2,3,1,1,1],[1,2,1,2,3],[1,1,3,5],[1,4,7],[1,2],[1]]
theorem ck51:okS sh51 ct51 = true:=by kernel_rfl
noncomputable def sh52:Tr3:=(.n (.n (.n .l (.n (.n .l .l) .l)) .l) .l)
noncomputable def ct52:List (List Int):=[[1,3,2,1,1,1],[1,1,1,2,3],[1,2,5,8],[1,3,5],[1,2],[1]]
theorem ck52:okS sh52 ct52 = true:=by kernel_rfl
noncomputable def sh53:Tr3:=(.n (.n (.n (.n .l .l) (.n .l .l)) .l) .l)
noncomputable def ct53:List (List Int):=[[1,1,2,1,1,1],[1,3,2,3,4],[1,1,2,3],[1,3,5],[1,2],[1]]
theorem ck53:okS sh53 ct53 = true:=by kernel_rfl
noncomputable def sh54:Tr3:=(.n (.n (.n (.n .l (.n .l .l)) .l) .l) .l)
noncomputable def ct54:List (List Int):=[[1,2,1,1,1,1],[1,1,2,3,4],[1,3,5,7],[1,2,3],[1,2],[1]]
theorem ck54:okS sh54 ct54 = true:=by kernel_rfl
noncomputable def sh55:Tr3:=(.n (.n (.n (.n (.n .l .l) .l) .l) .l) .l)
noncomputable def ct55:List (List Int):=[[1,1,1,1,1,1],[1,2,3,4,5],[1,2,3,4],[1,2,3],[1,2],[1]]
theorem ck55:okS sh55 ct55 = true:=by kernel_rfl
noncomputable def tab:List (Tr3 × List (List Int)):=[(sh0,ct0),(sh1,ct1),(sh2,ct2),(sh3,ct3),(sh4,ct4),(sh5,ct5),(sh6,ct6),(sh7,ct7),(sh8,ct8),(sh9,ct9),(sh10,ct10),(sh11,ct11),(sh12,ct12),(sh13,ct13),(sh14,ct14),(sh15,ct15),(sh16,ct16),(sh17,ct17),(sh18,ct18),(sh19,ct19),(sh20,ct20),(sh21,ct21),(sh22,ct22),(sh23,ct23),(sh24,ct24),(sh25,ct25),(sh26,ct26),(sh27,ct27),(sh28,ct28),(sh29,ct29),(sh30,ct30),(sh31,ct31),(sh32,ct32),(sh33,ct33),(sh34,ct34),(sh35,ct35),(sh36,ct36),(sh37,ct37),(sh38,ct38),(sh39,ct39),(sh40,ct40),(sh41,ct41),(sh42,ct42),(sh43,ct43),(sh44,ct44),(sh45,ct45),(sh46,ct46),(sh47,ct47),(sh48,ct48),(sh49,ct49),(sh50,ct50),(sh51,ct51),(sh52,ct52),(sh53,ct53),(sh54,ct54),(sh55,ct55)]
theorem tab_ok:∀ q ∈ tab,okS q.1 q.2 = true:=by
 unfold tab
 simp only [List.forall_mem_cons]
 exact ⟨ck0,ck1,ck2,ck3,ck4,ck5,ck6,ck7,ck8,ck9,ck10,ck11,ck12,ck13,ck14,ck15,ck16,ck17,ck18,ck19,ck20,ck21,ck22,ck23,ck24,ck25,ck26,ck27,ck28,ck29,ck30,ck31,ck32,ck33,ck34,ck35,ck36,ck37,ck38,ck39,ck40,ck41,ck42,ck43,ck44,ck45,ck46,ck47,ck48,ck49,ck50,ck51,ck52,ck53,ck54,ck55,fun _ h => nomatch h⟩
theorem tab_all (q:Tr3 × List (List Int)) (hq:q ∈ tab):cntsP (tri 0 q.1) q.1.lvs 0 q.2 = true ∧ goodAll q.1 q.2 = true:=Bool.and_eq_true_iff.mp (tab_ok q hq)
theorem tab_shapes:shapesF 7 4 ++ shapesF 7 5 = tab.map (·.1):=by kernel_rfl
end
section
theorem shape_ok (s:Tr3) (h:sizeT s = 4 ∨ sizeT s = 5):∃ css,cntsP (tri 0 s) s.lvs 0 css = true ∧ goodAll s css = true:=by
 have hm:s ∈ shapesF 7 4 ++ shapesF 7 5:=by
  have:=mem_shapes 7 s (by lia)
  rcases h with h | h
  ·rw [h] at this;exact List.mem_append_left _ this
  ·rw [h] at this;exact List.mem_append_right _ this
 rw [tab_shapes] at hm
 obtain ⟨q,hq,rfl⟩:=List.mem_map.mp hm
 exact ⟨q.2,tab_all q hq⟩
theorem intsOf_eq:∀ (l:List PV) (cs:List Int),intsOf l = some cs → l = cs.map .int
 | [],cs,h => by cases h;rfl
 | v :: r,cs,h => by
  cases v with
  | int j =>
   have h:(intsOf r).map (j :: ·) = some cs:=h
   cases hr:intsOf r with
   | none => rw [hr] at h;exact (nS h).elim
   | some ds =>
    rw [hr] at h
    cases h
    rw [List.map_cons,intsOf_eq r ds hr]
  | _ => exact (nS h).elim
theorem cntQ_get {r:Option PV} {cs:List Int} (h:cntQ r cs = true):r = some (.list (cs.map .int)):=by
 cases r with
 | none => exact (fT h).elim
 | some v => cases v with
  | list l => rw [intsOf_eq l cs (beq_iff_eq.mp (show (intsOf l == some cs) = true from h))]
  | _ => exact (fT h).elim
theorem cnt_get {R:Row} {last lo:Nat} {cs:List Int} (h:cntP R last lo cs = true):callN FT 11 16 [.val (.list (rowV R)),.val (.int (lo:Nat)),.val (.int (last:Nat))] = some (.list (cs.map .int)):=cntQ_get h
theorem evI_range2 (C:Calls) (n:Nat) (e:Ev) (x y:E) (i j:Int) (hx:evE C n e x = some (.int i,e)) (hy:evE C n e y = some (.int j,e)) (hi:small i = true) (hj:small j = true):evI C (n + 1) e (.range2 x y) = some (rangeI i (j - i).toNat,e):=by
 show (evE C n e x).bind _ = _
 rw [hx]
 show (evE C n e y).bind _ = _
 rw [hy]
 show (if (small i && small j) = true then some (rangeI i (j - i).toNat,e) else none) = _
 rw [hi,hj];rfl
theorem ev_var {C:Calls} {n:Nat} {e:Ev} {i:Nat} {v:PV} (h:getS e i = some (.val v)):evE C (n + 1) e (.var i) = some (v,e):=xV h
noncomputable def body17l:List S:=[.asg 23 (.call 16 [(.var 13),(.var 22),(.var 12)] none),.for1 24 (.range2 (.bin .add (.var 22) (.int (1))) (.bin .add (.var 12) (.int (1)))) body17t]
theorem w16 (C:Calls) (n:Nat) (e:Ev) (a b c v:PV) (g12:getS e 12 = some (.val c)) (g13:getS e 13 = some (.val a)) (g22:getS e 22 = some (.val b)) (h:C 16 [.val a,.val b,.val c] = some v):evE C (n + 10) e (.call 16 [(.var 13),(.var 22),(.var 12)] none) = some (v,e):=by
 exact xK3 (xV g13) (xV g22) (xV g12) h
end
section
theorem low_turn (d n:Nat) (R:Row) (D:List (Int × Co)) (last lo:Nat) (hl:last < 100) (cs:List Int) (hc:callN FT (d + 1) 16 [.val (.list (rowV R)),.val (.int (lo:Nat)),.val (.int (last:Nat))] = some (.list (cs.map .int))) (ho:tonesOk D lo (lo + 1) cs = true) (hlen:cs.length + lo = last) (e:Ev) (he:e.length = 31) (g12:getS e 12 = some (.val (.int (last:Nat)))) (g13:getS e 13 = some (.val (.list (rowV R)))) (g17:getS e 17 = some (.val (.dict (dm D)))) (g22:getS e 22 = some (.val (.int (lo:Nat)))) :
  ∃ e',exB (callN FT (d + 1)) (n + 35) e body17l = some (.next,e') ∧ Same [23,24,25,26] e e':=by
 have w1:=w16 (callN FT (d + 1)) (n + 23) e _ _ _ _ g12 g13 g22 hc
 have g23:getS (setS e 23 (.val (.list (cs.map .int)))) 23 = some (.val (.list (cs.map .int))):=getS_set (by lia)
 have s1:Same [23] e (setS e 23 (.val (.list (cs.map .int)))):=Same.set _ (by simp)
 rw [body17l,exB_next (exS_asg w1)]
 generalize setS e 23 (.val (.list (cs.map .int))) = e1 at g23 s1
 have k12:getS e1 12 = some (.val (.int (last:Nat))):=by rw [s1.2 12 (by decide)];exact g12
 have k17:getS e1 17 = some (.val (.dict (dm D))):=by rw [s1.2 17 (by decide)];exact g17
 have k22:getS e1 22 = some (.val (.int (lo:Nat))):=by rw [s1.2 22 (by decide)];exact g22
 have sm:∀ k:Nat,k < 30000 → small (k:Int) = true:=fun k hk => small_nat (k:=k) (by first | rfl | lia) (by lia)
 have x1:evE (callN FT (d + 1)) (n + 31) e1 (.bin .add (.var 22) (.int (1))) = some (.int ((lo:Nat) + 1),e1):=ev_add (ev_var (n:=n + 29) k22) (show evE _ (n + 30) e1 (.int 1) = some (.int 1,e1) from rfl) (add_int (sm _ (by lia)) (by decide))
 have x2:evE (callN FT (d + 1)) (n + 31) e1 (.bin .add (.var 12) (.int (1))) = some (.int ((last:Nat) + 1),e1):=ev_add (ev_var (n:=n + 29) k12) (show evE _ (n + 30) e1 (.int 1) = some (.int 1,e1) from rfl) (add_int (sm _ (by lia)) (by decide))
 have c1:((lo:Nat):Int) + 1 = ((lo + 1 + 0:Nat):Int):=by lia
 have c2:((last:Nat):Int) + 1 = ((last + 1:Nat):Int):=by lia
 have hi:=evI_range2 (callN FT (d + 1)) (n + 31) e1 _ _ _ _ x1 x2 (by rw [c1];exact sm _ (by lia)) (by rw [c2];exact sm _ (by lia))
 rw [show ((last:Nat) + 1 - ((lo:Nat) + 1):Int).toNat = cs.length by lia,c1] at hi
 obtain ⟨e',h1,h2⟩:=tone_loop d (n + 7) D cs lo (by lia) ho (by lia) cs.length 0 e1 (by lia) (by rw [s1.1,he]) k17 k22 g23
 refine ⟨e',?_,(s1.mono (by simp)).trans (h2.mono (by simp))⟩
 refine (exB_next ((exS_for1 hi).trans h1)).trans ?_
 rfl
theorem low_loop (d n:Nat) (R:Row) (D:List (Int × Co)) (last:Nat) (hl:last < 100):∀ (css:List (List Int)) (lo:Nat) (e:Ev),(∀ k cs,css[k]? = some cs → callN FT (d + 1) 16 [.val (.list (rowV R)),.val (.int ((lo + k:Nat):Int)),.val (.int (last:Nat))] = some (.list (cs.map .int))) → tonesAll D lo css = true → lensOk last lo css = true → e.length = 31 → getS e 12 = some (.val (.int (last:Nat))) → getS e 13 = some (.val (.list (rowV R))) → getS e 17 = some (.val (.dict (dm D))) →
  ∃ e',loopF (fun v e => exB (callN FT (d + 1)) (n + 35) (setS e 22 (.val v)) body17l) (rangeI (lo:Nat) css.length) e = some (.next,e') ∧ Same [22,23,24,25,26] e e'
 | [],_,e,_,_,_,_,_,_,_ => ⟨e,rfl,Same.refl _ _⟩
 | cs :: r,lo,e,hc,ht,hn,he,g12,g13,g17 => by
  have ht:=Bool.and_eq_true_iff.mp ht
  have hn:=Bool.and_eq_true_iff.mp hn
  have hlen:cs.length + lo = last:=Nat.eq_of_beq_eq_true hn.1
  obtain ⟨e1,h1,h2⟩:=low_turn d n R D last lo hl cs (hc 0 cs rfl) ht.1 hlen (setS e 22 (.val (.int (lo:Nat)))) (by rw [set_len,he]) (by rw [getS_ne (by decide)];exact g12) (by rw [getS_ne (by decide)];exact g13) (by rw [getS_ne (by decide)];exact g17) (getS_set (by lia))
  have hs:Same [22,23,24,25,26] e e1:=(Same.set _ (by simp)).trans (h2.mono (by simp))
  obtain ⟨e',h3,h4⟩:=low_loop d n R D last hl r (lo + 1) e1 (fun k cs' hk => by
   have:=hc (k + 1) cs' (by simpa using hk)
   rwa [show lo + (k + 1) = lo + 1 + k by lia] at this) ht.2 hn.2 (by rw [hs.1,he]) (by rw [hs.2 12 (by decide)];exact g12) (by rw [hs.2 13 (by decide)];exact g13) (by rw [hs.2 17 (by decide)];exact g17)
  refine ⟨e',?_,hs.trans h4⟩
  show loopF _ (.int (lo:Nat) :: rangeI (((lo:Nat):Int) + 1) r.length) e = _
  rw [loopF_c,h1]
  rw [show ((lo + 1:Nat):Int) = (lo:Nat) + 1 by lia] at h3
  exact h3
end
section
theorem ev_bin {C:Calls} {n:Nat} {e e1 e2:Ev} {op:Bop} {a b:E} {x y z:PV} (h1:evE C n e a = some (x,e1)) (h2:evE C n e1 b = some (y,e2)) (h3:binop op x y = some z):evE C (n + 1) e (.bin op a b) = some (z,e2):=by
 show (evE C n e a).bind _ = _
 rw [h1]
 show (evE C n e1 b).bind _ = _
 rw [h2]
 show (binop op x y).bind _ = _
 rw [h3];rfl
noncomputable def coI:Nat → Co
 | 0 => .r
 | 1 => .g
 | _ => .b
noncomputable def hueI:Nat → UInt64
 | 0 => 0
 | 1 => 4599676419421066581
 | _ => 4604180019048437077
theorem hue_run (d q:Nat) (hq:q < 3):binop .mul (.int (q:Nat)) (.int 2) = some (.int ((2 * q:Nat):Int)) ∧ binop .div (.int ((2 * q:Nat):Int)) (.int 6) = some (.flt (hueI q)) ∧ callN FT (d + 1) 5 [.val (.flt (hueI q)),.val (.flt one64),.val (.flt one64)] = some (col (coI q)):=by
 match q,hq with
 | 0,_ => exact ⟨by kernel_rfl,by kernel_rfl,by kernel_rfl⟩
 | 1,_ => exact ⟨by kernel_rfl,by kernel_rfl,by kernel_rfl⟩
 | 2,_ => exact ⟨by kernel_rfl,by kernel_rfl,by kernel_rfl⟩
theorem hue_ev (d n:Nat) (e:Ev) (A:E) (q:Nat) (hq:q < 3) (h:evE (callN FT (d + 1)) (n + 1) e A = some (.int (q:Nat),e)):evE (callN FT (d + 1)) (n + 5) e (.call 5 [.bin .div (.bin .mul A (.int (2))) (.int (6)),(.flt 4607182418800017408),(.flt 4607182418800017408)] none) = some (col (coI q),e):=by
 obtain ⟨h1,h2,h3⟩:=hue_run d q hq
 generalize callN FT (d + 1) = C at h h3
 have x1:=ev_bin h (show evE C (n + 1) e (.int 2) = some (.int 2,e) from rfl) h1
 have x2:=ev_bin x1 (show evE C (n + 2) e (.int 6) = some (.int 6,e) from rfl) h2
 have hl:evL C (n + 4) e [.bin .div (.bin .mul A (.int (2))) (.int (6)),(.flt 4607182418800017408),(.flt 4607182418800017408)] = some ([.flt (hueI q),.flt one64,.flt one64],e):=by
  show (evE C (n + 3) e _).bind _ = _
  rw [x2];rfl
 show (evL C (n + 4) e _).bind _ = _
 rw [hl]
 show (C 5 [.val (.flt (hueI q)),.val (.flt one64),.val (.flt one64)]).bind _ = _
 rw [h3];rfl
theorem sum_ok:∀ (xs:List Int) (a:Int),0 ≤ a → a + 1000000 * (xs.length:Int) < 100000000 → (∀ x ∈ xs,0 ≤ x ∧ x < 1000000) → ∃ S,0 ≤ S ∧ S < 100000000 ∧ sumI (xs.map .int) a = some S
 | [],a,h0,h1,_ => ⟨a,h0,by simpa using h1,rfl⟩
 | x :: r,a,h0,h1,h => by
  obtain ⟨h2,h3⟩:=h x (.head _)
  have h1:a + 1000000 * ((r.length + 1:Nat):Int) < 100000000:=h1
  obtain ⟨S,h4,h5,h6⟩:=sum_ok r (a + x) (by lia) (by lia) fun y hy => h y (.tail _ hy)
  refine ⟨S,h4,h5,?_⟩
  show (if (small x && small a) = true then sumI (r.map .int) (a + x) else none) = _
  rw [small_lt h2 (by lia),small_lt h0 (by lia)]
  exact h6
theorem ev_call15 (C:Calls) (n:Nat) (e:Ev) (R cb ce v:PV) (L:Int) (hL:L ≠ 0) (g13:getS e 13 = some (.val R)) (g15:getS e 15 = some (.val cb)) (g12:getS e 12 = some (.val (.int L))) (g16:getS e 16 = some (.val ce)) (h:C 15 [.val R,.ownD [(0,cb),(L,ce)]] = some v) :
  evE C (n + 10) e (.call 15 [(.var 13)] (some [((.int (0)),(.var 15)),((.var 12),(.var 16))])) = some (v,e):=by
 have hL':¬ (0 = L):=fun q => hL q.symm
 have d1:evD C (n + 8) e [((.var 12),(.var 16))] = some ([(L,ce)],e):=ob (xV g12) (ob (xV g16) (ob rfl rfl))
 have d2:evD C (n + 9) e [((.int (0)),(.var 15)),((.var 12),(.var 16))] = some ([(0,cb),(L,ce)],e):=ob (xV g15) (ob d1 (if_neg (fun q => hL' (by simpa using q))))
 exact ob (xL (xV g13) rfl) (ob d2 (ob h rfl))
noncomputable def tail17:List S:=[.unp [12,13] (.call 13 [(.var 8),(.int (0))] none),.asg 14 (.bi .sum [(.var 3)]),
 .asg 15 (.call 5 [(.bin .div (.bin .mul (.bin .mod (.var 14) (.int (3))) (.int (2))) (.int (6))),(.flt 4607182418800017408),(.flt 4607182418800017408)] none),
 .asg 16 (.call 5 [(.bin .div (.bin .mul (.bin .mod (.bin .add (.bin .add (.bin .mod (.var 14) (.int (3))) (.int (1))) (.bin .mod (.bin .fdiv (.var 14) (.int (3))) (.int (2)))) (.int (3))) (.int (2))) (.int (6))),(.flt 4607182418800017408),(.flt 4607182418800017408)] none),
 .asg 17 (.call 15 [(.var 13)] (some [((.int (0)),(.var 15)),((.var 12),(.var 16))])),.forn [18,19,20] (.val (.var 13)) body17g,.for1 22 (.range (.var 12)) body17l,.ret (.bool true)]
theorem exS_for3 {C:Calls} {n:Nat} {e e1:Ev} {xs:List Nat} {it:It} {b:List S} {its:List PV} (h:evI C n e it = some (its,e1)):exS C (n + 1) e (.forn xs it b) = loopF (fun v e => (unpV v).bind fun l => (setMany e xs l).bind fun e => exB C n e b) its e1:=by
 show (evI C n e it).bind _ = _
 rw [h];rfl
theorem pairs_in (a b:Nat) (ha:a < 3) (hb:b < 2):(coI a,coI ((a + 1 + b) % 3)) ∈ pairsCo:=by
 have:∀ a:Fin 3,∀ b:Fin 2,(coI a.1,coI ((a.1 + 1 + b.1) % 3)) ∈ pairsCo:=by decide
 exact this ⟨a,ha⟩ ⟨b,hb⟩
theorem tail_run (d:Nat) (hd:4 ≤ d) (f:F) (hf:f.ops = 4 ∨ f.ops = 5) (css:List (List Int)) (hcnt:∀ k cs,css[k]? = some cs → callN FT (d + 2) 16 [.val (.list (rowV (tri 0 (shp f)))),.val (.int ((0 + k:Nat):Int)),.val (.int ((shp f).lvs:Nat))] = some (.list (cs.map .int))) (hgood:goodAll (shp f) css = true) (nums:List Int) (hn:okN nums)
  (e:Ev) (he:e.length = 31) (g3:getS e 3 = some (.val (.list (nums.map .int)))) (g8:getS e 8 = some (.val (told f))):∃ e',exB (callN FT (d + 2)) 49 e tail17 = some (.ret (.bool true),e'):=by
 have hl:=lvs_shp f
 have ht:=tri_run f (d + 2) 0 (by lia) (by lia)
 generalize shp f = s at *
 have htl:=tri_len s 0
 have w12:evE (callN FT (d + 2)) 47 e (.call 13 [(.var 8),(.int (0))] none) = some (.tup [.int (s.lvs:Nat),.list (rowV (tri 0 s))],e):=by
  generalize callN FT (d + 2) = C at ht
  have ht:C 13 [.val (told f),.val (.int 0)] = _:=ht
  exact xK2 (xV g8) rfl ht
 unfold tail17
 refine xE ((exS_unp2 w12)) ?_
 have s1:Same [12,13] e (setS (setS e 12 (.val (.int (s.lvs:Nat)))) 13 (.val (.list (rowV (tri 0 s))))):=(Same.set _ (by simp)).trans (Same.set _ (by simp))
 have a12:getS (setS (setS e 12 (.val (.int (s.lvs:Nat)))) 13 (.val (.list (rowV (tri 0 s))))) 12 = some (.val (.int (s.lvs:Nat))):=by rw [getS_ne (by decide)];exact getS_set (by lia)
 have a13:getS (setS (setS e 12 (.val (.int (s.lvs:Nat)))) 13 (.val (.list (rowV (tri 0 s))))) 13 = some (.val (.list (rowV (tri 0 s)))):=getS_set (by rw [set_len];lia)
 generalize setS (setS e 12 (.val (.int (s.lvs:Nat)))) 13 (.val (.list (rowV (tri 0 s)))) = e1 at s1 a12 a13
 have l1:e1.length = 31:=by rw [s1.1,he]
 obtain ⟨S,hS0,hS1,hS⟩:=sum_ok nums 0 (by lia) (by have:=hn.2.1;lia) hn.2.2
 have w14:evE (callN FT (d + 2)) 46 e1 (.bi .sum [(.var 3)]) = some (.int S,e1):=ev_bi1 (ev_var (n:=43) (by rw [s1.2 3 (by decide)];exact g3)) (by show (sumI (nums.map .int) 0).map PV.int = _;rw [hS];rfl)
 refine xE ((exS_asg w14)) ?_
 have s2:Same [14] e1 (setS e1 14 (.val (.int S))):=Same.set _ (by simp)
 have b14:getS (setS e1 14 (.val (.int S))) 14 = some (.val (.int S)):=getS_set (by lia)
 generalize setS e1 14 (.val (.int S)) = e2 at s2 b14
 have l2:e2.length = 31:=by rw [s2.1,l1]
 have ha3:S.toNat % 3 < 3:=Nat.mod_lt _ (by lia)
 have hb2:S.toNat / 3 % 2 < 2:=Nat.mod_lt _ (by lia)
 have m3:S.fmod 3 = ((S.toNat % 3:Nat):Int):=fmodn hS0 3
 have m32:(S.fdiv 3).fmod 2 = ((S.toNat / 3 % 2:Nat):Int):=fdivmod hS0 3 2 (by lia) (by lia)
 have hpair:=pairs_in _ _ ha3 hb2
 generalize S.toNat % 3 = a at ha3 m3 hpair
 generalize S.toNat / 3 % 2 = b at hb2 m32 hpair
 have hj:(a + 1 + b) % 3 < 3:=Nat.mod_lt _ (by lia)
 have hS2:=small_lt hS0 hS1
 have r3:∀ (n:Nat) (e:Ev),getS e 14 = some (.val (.int S)) → evE (callN FT (d + 2)) (n + 2) e (.bin .mod (.var 14) (.int 3)) = some (.int (a:Nat),e):=fun n e h =>
  ev_bin (ev_var h) (show evE _ (n + 1) e (.int 3) = some (.int 3,e) from rfl) (by rw [← m3];rfl)
 have w15:=hue_ev (d + 1) 40 e2 _ a ha3 (r3 39 e2 b14)
 refine xE ((exS_asg w15)) ?_
 have s3:Same [15] e2 (setS e2 15 (.val (col (coI a)))):=Same.set _ (by simp)
 have c15:getS (setS e2 15 (.val (col (coI a)))) 15 = some (.val (col (coI a))):=getS_set (by lia)
 generalize setS e2 15 (.val (col (coI a))) = e3 at s3 c15
 have l3:e3.length = 31:=by rw [s3.1,l2]
 have c14:getS e3 14 = some (.val (.int S)):=by rw [s3.2 14 (by decide)];exact b14
 have sm:∀ k:Nat,k < 30000 → small (k:Int) = true:=fun k hk => small_nat (k:=k) (by first | rfl | lia) (by lia)
 have t1:evE (callN FT (d + 2)) 38 e3 (.bin .add (.bin .mod (.var 14) (.int (3))) (.int (1))) = some (.int ((a + 1:Nat):Int),e3):=ev_bin (r3 35 e3 c14) (show evE _ 37 e3 (.int 1) = some (.int 1,e3) from rfl) (add_int (sm a (by lia)) (by decide))
 have t2:evE (callN FT (d + 2)) 37 e3 (.bin .fdiv (.var 14) (.int (3))) = some (.int (S.fdiv 3),e3):=ev_bin (ev_var (n:=35) c14) (show evE _ 36 e3 (.int 3) = some (.int 3,e3) from rfl) (by show (if (small S && small 3 && decide ((0:Int) < 3)) = true then _ else _) = _;rw [hS2];rfl)
 have t3:evE (callN FT (d + 2)) 38 e3 (.bin .mod (.bin .fdiv (.var 14) (.int (3))) (.int (2))) = some (.int (b:Nat),e3):=ev_bin t2 (show evE _ 37 e3 (.int 2) = some (.int 2,e3) from rfl) (by rw [← m32];rfl)
 have t4:evE (callN FT (d + 2)) 39 e3 (.bin .add (.bin .add (.bin .mod (.var 14) (.int (3))) (.int (1))) (.bin .mod (.bin .fdiv (.var 14) (.int (3))) (.int (2)))) = some (.int ((a + 1 + b:Nat):Int),e3):=ev_bin t1 t3 (add_int (sm (a + 1) (by lia)) (sm b (by lia)))
 have t5:evE (callN FT (d + 2)) 40 e3 (.bin .mod (.bin .add (.bin .add (.bin .mod (.var 14) (.int (3))) (.int (1))) (.bin .mod (.bin .fdiv (.var 14) (.int (3))) (.int (2)))) (.int (3))) = some (.int (((a + 1 + b) % 3:Nat):Int),e3):=ev_bin t4 (show evE _ 39 e3 (.int 3) = some (.int 3,e3) from rfl) (by
  have:((a + 1 + b:Nat):Int).fmod 3 = (((a + 1 + b) % 3:Nat):Int):=fmodn (x:=((a + 1 + b:Nat):Int)) (by lia) 3
  rw [← this];rfl)
 have w16:=hue_ev (d + 1) 39 e3 _ ((a + 1 + b) % 3) hj t5
 refine xE ((exS_asg w16)) ?_
 generalize hcA:coI a = ca at *
 generalize hcB:coI ((a + 1 + b) % 3) = cb at *
 have s4:Same [16] e3 (setS e3 16 (.val (col cb))):=Same.set _ (by simp)
 have d16:getS (setS e3 16 (.val (col cb))) 16 = some (.val (col cb)):=getS_set (by lia)
 generalize setS e3 16 (.val (col cb)) = e4 at s4 d16
 have l4:e4.length = 31:=by rw [s4.1,l3]
 have d12:getS e4 12 = some (.val (.int (s.lvs:Nat))):=by rw [s4.2 12 (by decide),s3.2 12 (by decide),s2.2 12 (by decide)];exact a12
 have d13:getS e4 13 = some (.val (.list (rowV (tri 0 s)))):=by rw [s4.2 13 (by decide),s3.2 13 (by decide),s2.2 13 (by decide)];exact a13
 have d15:getS e4 15 = some (.val (col ca)):=by rw [s4.2 15 (by decide)];exact c15
 unfold goodAll at hgood
 rw [Bool.and_eq_true,Bool.and_eq_true] at hgood
 obtain ⟨⟨hg1,hg2⟩,hg3⟩:=hgood
 have hg:=List.all_eq_true.mp hg1 _ hpair
 unfold goodOne at hg
 cases hD:paint (tri 0 s) [(0,ca),((s.lvs:Nat),cb)] with
 | none => rw [hD] at hg;exact (fT hg).elim
 | some D =>
  rw [hD] at hg
  have hg:=Bool.and_eq_true_iff.mp hg
  have hpr:=paint_run d (tri 0 s) [(0,ca),((s.lvs:Nat),cb)] D (by simp only [List.length_cons,List.length_nil];lia) hD
  have w17:=ev_call15 (callN FT (d + 2)) 33 e4 _ _ _ _ (s.lvs:Nat) (by lia) d13 d15 d12 d16 hpr
  refine xE ((exS_asg w17)) ?_
  have s5:Same [17] e4 (setS e4 17 (.val (.dict (dm D)))):=Same.set _ (by simp)
  have f17:getS (setS e4 17 (.val (.dict (dm D)))) 17 = some (.val (.dict (dm D))):=getS_set (by lia)
  generalize setS e4 17 (.val (.dict (dm D))) = e5 at s5 f17
  have l5:e5.length = 31:=by rw [s5.1,l4]
  have f13:getS e5 13 = some (.val (.list (rowV (tri 0 s)))):=by rw [s5.2 13 (by decide)];exact d13
  have f12:getS e5 12 = some (.val (.int (s.lvs:Nat))):=by rw [s5.2 12 (by decide)];exact d12
  obtain ⟨e6,h6,s6⟩:=grey_loop (d + 1) 2 D (tri 0 s) e5 l5 f17 (List.all_eq_true.mp hg.1)
  have i16:evI (callN FT (d + 2)) 42 e5 (.val (.var 13)) = some (rowV (tri 0 s),e5):=by
   show (evE (callN FT (d + 2)) 41 e5 (.var 13)).bind _ = _
   rw [ev_var f13];rfl
  refine xE (((exS_for3 i16).trans h6)) ?_
  have g12:getS e6 12 = some (.val (.int (s.lvs:Nat))):=by rw [s6.2 12 (by decide)];exact f12
  have g13:getS e6 13 = some (.val (.list (rowV (tri 0 s)))):=by rw [s6.2 13 (by decide)];exact f13
  have g17:getS e6 17 = some (.val (.dict (dm D))):=by rw [s6.2 17 (by decide)];exact f17
  obtain ⟨e7,h7,s7⟩:=low_loop (d + 1) 6 (tri 0 s) D s.lvs (by lia) css 0 e6 hcnt hg.2 hg3 (by rw [s6.1,l5]) g12 g13 g17
  have i17:=evI_range (callN FT (d + 2)) 40 e6 (.var 12) (s.lvs:Nat) (ev_var g12) (sm _ (by lia))
  rw [Int.toNat_natCast,← Nat.eq_of_beq_eq_true hg2] at i17
  refine xE (((exS_for1 i17).trans h7)) ?_
  exact ⟨e7,rfl⟩
end
section
theorem pe_str (n:Nat) (a:List Nat):pvEq n (.str a) (.str a) = some true:=by cases n <;> exact sT rfl
theorem pe_int (n:Nat) (a:Int):pvEq n (.int a) (.int a) = some true:=by cases n <;> exact sT rfl
theorem pes_cons {n:Nat} {a b:PV} {l r:List PV} (h1:pvEq n a b = some true) (h2:pvEqs n l r = some true):pvEqs n (a :: l) (b :: r) = some true:=by
 rw [pes_c,h1,h2];rfl
theorem pe3 {m:Nat} {s:Int} {x y:PV} (h1:pvEq m x x = some true) (h2:pvEq m y y = some true):pvEqs m [.int s,x,y] [.int s,x,y] = some true:=pes_cons (pe_int _ _) (pes_cons h1 (pes_cons h2 (pes_nil _)))
theorem told_tup (o:Fin 8) (d:Fin 6) (a b:F):∃ x y,told (.node o d a b) = .tup [.int (symOf o:Nat),x,y] ∧ ((x = told a ∧ y = told b) ∨ (x = told b ∧ y = told a)):=by
 rw [told_c]
 split
 ·exact ⟨_,_,rfl,.inl ⟨rfl,rfl⟩⟩
 ·exact ⟨_,_,rfl,.inr ⟨rfl,rfl⟩⟩
theorem eq_tree (f:F):∀ n:Nat,f.ops ≤ n → pvEq n (told f) (told f) = some true:=by
 induction f with
 | leaf i => intro n _;exact pe_str n (heard i)
 | node o d a b iha ihb =>
  intro n h
  have h:a.ops + b.ops + 1 ≤ n:=h
  obtain ⟨m,rfl⟩:∃ m,n = m + 1:=⟨n - 1,by lia⟩
  have h1:=iha m (by lia)
  have h2:=ihb m (by lia)
  obtain ⟨x,y,e,⟨rfl,rfl⟩ | ⟨rfl,rfl⟩⟩:=told_tup o d a b
  ·rw [e];exact pe3 h1 h2
  ·rw [e];exact pe3 h2 h1
theorem ne_tree (f:F) (h:0 < f.ops) (h2:f.ops ≤ 100):cmpop .ne (told f) (told f) = some false:=by
 have:=eq_tree f 101 (Nat.le_succ_of_le h2)
 cases f with
 | leaf i => exact absurd h (Nat.lt_irrefl 0)
 | node o d a b =>
  obtain ⟨x,y,e,_⟩:=told_tup o d a b
  rw [e] at this ⊢
  show (pvEqs 100 _ _).map (!·) = _
  rw [show pvEqs 100 _ _ = some true from this];rfl
noncomputable def own:List Int:=[15901,3660,13861,14040]
noncomputable def sizeN (l:List Int):Nat:=if l.length < 5 then 4 else 5
noncomputable def numsOf (l:List Int):List Int:=(l.take (sizeN l)).map (fun x => x.fmod 1000000) ++ own.drop (l.take (sizeN l)).length
theorem nums_len (l:List Int):(numsOf l).length = 4 ∨ (numsOf l).length = 5:=by
 unfold numsOf sizeN
 rw [List.length_append,List.length_map,List.length_drop,List.length_take]
 show min _ _ + (4 - min _ _) = 4 ∨ min _ _ + (4 - min _ _) = 5
 split <;> lia
theorem nums_ok (l:List Int):okN (numsOf l):=by
 have h:=nums_len l
 refine ⟨fun q => ?_,by lia,fun x hx => ?_⟩
 ·rw [q] at h;simp at h
 ·unfold numsOf at hx
  rcases List.mem_append.mp hx with h | h
  ·obtain ⟨y,_,rfl⟩:=List.mem_map.mp h
   show 0 ≤ y.fmod 1000000 ∧ y.fmod 1000000 < 1000000
   rw [Int.fmod_eq_emod_of_nonneg _ (by lia)]
   lia
  ·have:x ∈ own:=List.mem_of_mem_drop h
   have h2:∀ x ∈ own,0 ≤ x ∧ x < 1000000:=by decide
   exact h2 x this
noncomputable def head17:List S:=[.asgL 1 [(.int (15901)),(.int (3660)),(.int (13861)),(.int (14040))],.asg 2 (.ife (.cmp .lt (.bi .len [(.var 0)]) (.int (5))) (.int (4)) (.int (5))),.asg 3 (.comp (.bin .mod (.var 27) (.bin .pow (.int (10)) (.int (6)))) 27 (.val (.slc (.var 0) none (some (.var 2)))) []),
 .asg 3 (.bin .add (.var 3) (.slc (.var 1) (some (.bi .len [(.var 3)])) none)),.unp [4,5] (.call 10 [(.var 3)] none),.asg 6 (.bi .join [eP]),.asg 7 (.call 11 [(.var 6)] none),.asg 8 (.call 12 [(.var 6),(.var 7)] none),
 .ifs (.or [(.cmp .isNot (.call 2 [(.var 6)] none) (.bool true)),(.cmp .ne (.var 8) (.var 4))]) [(.ret (.bool false))] [],.asg 9 e17_9,s17_10]
theorem fn17_body:fn17.body = head17 ++ tail17:=rfl
theorem f27 (C:Calls) (n:Nat) (e:Ev) (he:e.length = 31) (q:Int):selF C (n + 10) e (.bin .mod (.var 27) (.bin .pow (.int (10)) (.int (6)))) 27 [] (.int q) = some (some (.int (q.fmod 1000000))):=by
 have hg:getS (setS (vals e) 27 (.val (.int q))) 27 = some (.val (.int q)):=getS_set (by rw [vals_len];lia)
 unfold selF
 generalize setS (vals e) 27 (.val (.int q)) = e' at hg
 have h1:binop .pow (.int 10) (.int 6) = some (.int 1000000):=rfl
 have h2:binop .mod (.int q) (.int 1000000) = some (.int (q.fmod 1000000)):=rfl
 exact ob rfl (ob (xB (xV hg) (xB rfl rfl h1) h2) rfl)
theorem ev_if {C:Calls} {n:Nat} {e e':Ev} {t:T} {a b:E} {c:Bool} (h:evT C n e t = some (c,e')):evE C (n + 1) e (.ife t a b) = if c then evE C n e' a else evE C n e' b:=by
 show (evT C n e t).bind _ = _
 rw [h];rfl
theorem evT_cmp {C:Calls} {n:Nat} {e e1 e2:Ev} {op:Cop} {a b:E} {x y:PV} {c:Bool} (h1:evE C n e a = some (x,e1)) (h2:evE C n e1 b = some (y,e2)) (h3:cmpop op x y = some c):evT C (n + 1) e (.cmp op a b) = some (c,e2):=by
 show (evE C n e a).bind _ = _
 rw [h1]
 show (evE C n e1 b).bind _ = _
 rw [h2]
 show (cmpop op x y).bind _ = _
 rw [h3];rfl
theorem ev_call1 {C:Calls} {n:Nat} {e:Ev} {f:Nat} {a:E} {x y:PV} (h:evE C (n + 1) e a = some (x,e)) (hC:C f [.val x] = some y):evE C (n + 3) e (.call f [a] none) = some (y,e):=by
 have hl:evL C (n + 2) e [a] = some ([x],e):=by
  show (evE C (n + 1) e a).bind _ = _
  rw [h];rfl
 show (evL C (n + 2) e [a]).bind _ = _
 rw [hl]
 show (C f [.val x]).bind _ = _
 rw [hC];rfl
theorem nums_run (C:Calls) (l:List Int) (hl:l.length ≤ 63) (e:Ev) (he:e.length = 31) (g0:getS e 0 = some (.val (.list (l.map .int)))):∃ e',exB C 60 e fn17.body = exB C 56 e' (fn17.body.drop 4) ∧ e'.length = 31 ∧ getS e' 3 = some (.val (.list ((numsOf l).map .int))):=by
 rw [fn17_body]
 unfold head17
 have hlen:biop .len [.list (l.map .int)] = some (.int (l.length:Nat)):=by
  have:=len_list (l.map .int) (lim_of (by rw [List.length_map];lia))
  rwa [List.length_map] at this
 rw [List.cons_append,exB_next (e':=setS e 1 (.ownL (own.map .int))) rfl]
 have a0:getS (setS e 1 (.ownL (own.map .int))) 0 = some (.val (.list (l.map .int))):=by rw [getS_ne (by decide)];exact g0
 have a1:getS (setS e 1 (.ownL (own.map .int))) 1 = some (.ownL (own.map .int)):=getS_set (by lia)
 have hl1:(setS e 1 (.ownL (own.map .int))).length = 31:=by rw [set_len,he]
 generalize setS e 1 (.ownL (own.map .int)) = e1 at a0 a1 hl1
 have w2:evE C 57 e1 (.ife (.cmp .lt (.bi .len [(.var 0)]) (.int (5))) (.int (4)) (.int (5))) = some (.int (sizeN l:Nat),e1):=by
  have x1:evE C 55 e1 (.bi .len [(.var 0)]) = some (.int (l.length:Nat),e1):=ev_bi1 (ev_var a0) hlen
  rw [ev_if (evT_cmp x1 (show evE C 55 e1 (.int 5) = some (.int 5,e1) from rfl) (show cmpop .lt (.int (l.length:Nat)) (.int 5) = some (decide ((l.length:Int) < 5)) from rfl))]
  unfold sizeN
  by_cases h:l.length < 5
  ·rw [if_pos (decide_eq_true (by lia)),if_pos h];rfl
  ·rw [if_neg (by rw [decide_eq_false (by lia)];decide),if_neg h];rfl
 rw [List.cons_append,exB_next (exS_asg w2)]
 have b0:getS (setS e1 2 (.val (.int (sizeN l:Nat)))) 0 = some (.val (.list (l.map .int))):=by rw [getS_ne (by decide)];exact a0
 have b1:getS (setS e1 2 (.val (.int (sizeN l:Nat)))) 1 = some (.ownL (own.map .int)):=by rw [getS_ne (by decide)];exact a1
 have b2:getS (setS e1 2 (.val (.int (sizeN l:Nat)))) 2 = some (.val (.int (sizeN l:Nat))):=getS_set (by lia)
 have hl2:(setS e1 2 (.val (.int (sizeN l:Nat)))).length = 31:=by rw [set_len,hl1]
 generalize setS e1 2 (.val (.int (sizeN l:Nat))) = e2 at b0 b1 b2 hl2
 have hsz:sizeN l ≤ 5:=by unfold sizeN;split <;> lia
 have x3:evE C 54 e2 (.slc (.var 0) none (some (.var 2))) = some (.list ((l.take (sizeN l)).map .int),e2):=by
  have hs:=slc_lupto (l.map .int) (bnd_lt (k:=sizeN l) (by lia)) (lim_of (by rw [List.length_map];lia))
  rw [show cut (l.map PV.int) 0 (sizeN l) = (l.take (sizeN l)).map .int by rw [List.map_take];rfl] at hs
  refine ev_slc (ev_var b0) (show evO C 53 e2 none = some (none,e2) from rfl) (show evO C 53 e2 (some (.var 2)) = some (some (.int (sizeN l:Nat)),e2) from ?_) hs
  show (evE C 52 e2 (.var 2)).bind _ = _
  rw [ev_var b2];rfl
 have hi:evI C 55 e2 (.val (.slc (.var 0) none (some (.var 2)))) = some ((l.take (sizeN l)).map .int,e2):=by
  show (evE C 54 e2 _).bind _ = _
  rw [x3];rfl
 have hr:compL (selF C 55 e2 (.bin .mod (.var 27) (.bin .pow (.int (10)) (.int (6)))) 27 []) ((l.take (sizeN l)).map .int) = some (((l.take (sizeN l)).map (fun x => x.fmod 1000000)).map .int):=by
  have:=compL_sel (f:=selF C 55 e2 (.bin .mod (.var 27) (.bin .pow (.int (10)) (.int (6)))) 27 []) PV.int (fun _ => true) (fun q => .int (q.fmod 1000000)) (l.take (sizeN l)) fun x _ => f27 C 45 e2 hl2 x
  rw [this,List.filter_eq_self.mpr fun _ _ => rfl,List.map_map]
  rfl
 have htk:(l.take (sizeN l)).length ≤ 5:=by rw [List.length_take];lia
 have w3:evE C 56 e2 (.comp (.bin .mod (.var 27) (.bin .pow (.int (10)) (.int (6)))) 27 (.val (.slc (.var 0) none (some (.var 2)))) []) = some (.list (((l.take (sizeN l)).map (fun x => x.fmod 1000000)).map .int),e2):=ev_comp (by rw [hl2];rfl) hi hr (lim_of (by rw [List.length_map,List.length_map];lia)) (lim_of (by rw [List.length_map];lia))
 rw [List.cons_append,exB_next (exS_asg w3)]
 generalize hxs:(l.take (sizeN l)).map (fun x => x.fmod 1000000) = xs
 have hxl:xs.length = (l.take (sizeN l)).length:=by rw [← hxs,List.length_map]
 have c1:getS (setS e2 3 (.val (.list (xs.map .int)))) 1 = some (.ownL (own.map .int)):=by rw [getS_ne (by decide)];exact b1
 have c3:getS (setS e2 3 (.val (.list (xs.map .int)))) 3 = some (.val (.list (xs.map .int))):=getS_set (by lia)
 have hl3:(setS e2 3 (.val (.list (xs.map .int)))).length = 31:=by rw [set_len,hl2]
 generalize setS e2 3 (.val (.list (xs.map .int))) = e3 at c1 c3 hl3
 have hlen3:biop .len [.list (xs.map .int)] = some (.int (xs.length:Nat)):=by
  have:=len_list (xs.map .int) (lim_of (by rw [List.length_map];lia))
  rwa [List.length_map] at this
 have d3:getS (setS e3 1 (.val (.list (own.map .int)))) 3 = some (.val (.list (xs.map .int))):=by rw [getS_ne (by decide)];exact c3
 have x4:evE C 54 e3 (.slc (.var 1) (some (.bi .len [(.var 3)])) none) = some (.list ((own.drop xs.length).map .int),setS e3 1 (.val (.list (own.map .int)))):=by
  have y1:evE C 53 e3 (.var 1) = some (.list (own.map .int),setS e3 1 (.val (.list (own.map .int)))):=xVf c1
  have y2:evO C 53 (setS e3 1 (.val (.list (own.map .int)))) (some (.bi .len [(.var 3)])) = some (some (.int (xs.length:Nat)),setS e3 1 (.val (.list (own.map .int)))):=by
   have:evE C 52 (setS e3 1 (.val (.list (own.map .int)))) (.bi .len [(.var 3)]) = some (.int (xs.length:Nat),setS e3 1 (.val (.list (own.map .int)))):=ev_bi1 (ev_var d3) hlen3
   show (evE C 52 _ _).bind _ = _
   rw [this];rfl
  refine ev_slc y1 y2 (show evO C 53 _ none = some (none,_) from rfl) ?_
  have:=slc_lfrom (own.map .int) (bnd_lt (k:=xs.length) (by lia)) rfl
  rw [this,List.map_drop]
 have w4:evE C 55 e3 (.bin .add (.var 3) (.slc (.var 1) (some (.bi .len [(.var 3)])) none)) = some (.list ((numsOf l).map .int),setS e3 1 (.val (.list (own.map .int)))):=by
  refine ev_bin (ev_var c3) x4 ?_
  rw [add_list (by rw [List.length_map,List.length_map,List.length_drop];show _ + (4 - _) < _;lia),← List.map_append]
  unfold numsOf
  rw [hxs,hxl]
 rw [List.cons_append,exB_next (exS_asg w4)]
 exact ⟨_,rfl,by rw [set_len,set_len,hl3],getS_set (by rw [set_len,hl3];lia)⟩
end
section
theorem evT_or2 {C:Calls} {n:Nat} {e:Ev} {t u:T} (h1:evT C (n + 2) e t = some (false,e)) (h2:evT C (n + 1) e u = some (false,e)):evT C (n + 4) e (.or [t,u]) = some (false,e):=by
 show evTs C (n + 3) e false [t,u] = _
 show (evT C (n + 2) e t).bind _ = _
 rw [h1]
 show (evT C (n + 1) e u).bind _ = _
 rw [h2];rfl
theorem ev_call2 {C:Calls} {n:Nat} {e:Ev} {f:Nat} {a b:E} {x y z:PV} (h:evE C (n + 2) e a = some (x,e)) (h':evE C (n + 1) e b = some (y,e)) (hC:C f [.val x,.val y] = some z):evE C (n + 4) e (.call f [a,b] none) = some (z,e):=by
 have hl:evL C (n + 3) e [a,b] = some ([x,y],e):=by
  show (evE C (n + 2) e a).bind _ = _
  rw [h]
  show ((evE C (n + 1) e b).bind _).bind _ = _
  rw [h'];rfl
 show (evL C (n + 3) e [a,b]).bind _ = _
 rw [hl]
 show (C f [.val x,.val y]).bind _ = _
 rw [hC];rfl
theorem law_gen (d:Nat) (hd:6 ≤ d) (hcnt:∀ s:Tr3,(sizeT s = 4 ∨ sizeT s = 5) → ∃ css,goodAll s css = true ∧ ∀ k cs,css[k]? = some cs → callN FT (d + 2) 16 [.val (.list (rowV (tri 0 s))),.val (.int ((0 + k:Nat):Int)),.val (.int (s.lvs:Nat))] = some (.list (cs.map .int)))
  (l:List Int) (hl:l.length ≤ 63):callN FT (d + 3) 17 [.val (.list (l.map .int))] = some (.bool true):=by
 rw [callN_eq (d + 2) 17 _ rfl]
 obtain ⟨e4,h4,len4,g3⟩:=nums_run (callN FT (d + 2)) l hl [some (.val (.list (l.map .int))),none,none,none,none,none,none,none,none,none,none,none,none,none,none,none,none,none,none,none,none,none,none,none,none,none,none,none,none,none,none] rfl rfl
 show out (exB (callN FT (d + 2)) 60 [some (.val (.list (l.map .int))),none,none,none,none,none,none,none,none,none,none,none,none,none,none,none,none,none,none,none,none,none,none,none,none,none,none,none,none,none,none] fn17.body) = _
 rw [h4]
 have hn:=nums_ok l
 have hnl:=nums_len l
 generalize numsOf l = nums at g3 hn hnl
 obtain ⟨f,hf,hdr⟩:=drawn_run (d + 1) nums hn
 rw [fn17_body]
 show out (exB (callN FT (d + 2)) 56 e4 (.unp [4,5] (.call 10 [(.var 3)] none) :: .asg 6 (.bi .join [eP]) :: .asg 7 (.call 11 [(.var 6)] none) :: .asg 8 (.call 12 [(.var 6),(.var 7)] none) ::
  .ifs (.or [(.cmp .isNot (.call 2 [(.var 6)] none) (.bool true)),(.cmp .ne (.var 8) (.var 4))]) [(.ret (.bool false))] [] :: .asg 9 e17_9 :: s17_10 :: tail17)) = _
 have w5:evE (callN FT (d + 2)) 54 e4 (.call 10 [(.var 3)] none) = some (.tup [told f,.str (raw f)],e4):=ev_call1 (ev_var g3) hdr
 refine (congrArg out (exB_next (exS_unp2 w5))).trans ?_
 have s5:Same [4,5] e4 (setS (setS e4 4 (.val (told f))) 5 (.val (.str (raw f)))):=(Same.set _ (by simp)).trans (Same.set _ (by simp))
 have a4:getS (setS (setS e4 4 (.val (told f))) 5 (.val (.str (raw f)))) 4 = some (.val (told f)):=by rw [getS_ne (by decide)];exact getS_set (by lia)
 have a5:getS (setS (setS e4 4 (.val (told f))) 5 (.val (.str (raw f)))) 5 = some (.val (.str (raw f))):=getS_set (by rw [set_len];lia)
 generalize setS (setS e4 4 (.val (told f))) 5 (.val (.str (raw f))) = e5 at s5 a4 a5
 have l5:e5.length = 31:=by rw [s5.1,len4]
 have a3:getS e5 3 = some (.val (.list (nums.map .int))):=by rw [s5.2 3 (by decide)];exact g3
 have w6:=prep_run (d + 1) 23 f (by lia) e5 l5 a5
 refine (congrArg out (exB_next (exS_asg w6))).trans ?_
 have s6:Same [6] e5 (setS e5 6 (.val (.str (flat (pcs f))))):=Same.set _ (by simp)
 have b6:getS (setS e5 6 (.val (.str (flat (pcs f))))) 6 = some (.val (.str (flat (pcs f)))):=getS_set (by lia)
 generalize setS e5 6 (.val (.str (flat (pcs f)))) = e6 at s6 b6
 have l6:e6.length = 31:=by rw [s6.1,l5]
 have hfl:=flat_len f
 have hpl:=pcs_len f
 have hsc:scans (pcs f):=by
  have:=scans_pcs f [] trivial
  rwa [List.append_nil] at this
 have hsy:=symbols_run (d + 1) (fun x hx => (fit_pcs f x hx).ok) hsc (by lia) (by lia)
 have w7:evE (callN FT (d + 2)) 52 e6 (.call 11 [(.var 6)] none) = some (.list (rowV (rws 0 (pcs f))),e6):=ev_call1 (ev_var b6) hsy
 refine (congrArg out (exB_next (exS_asg w7))).trans ?_
 have s7:Same [7] e6 (setS e6 7 (.val (.list (rowV (rws 0 (pcs f)))))):=Same.set _ (by simp)
 have c7:getS (setS e6 7 (.val (.list (rowV (rws 0 (pcs f)))))) 7 = some (.val (.list (rowV (rws 0 (pcs f))))):=getS_set (by lia)
 generalize setS e6 7 (.val (.list (rowV (rws 0 (pcs f))))) = e7 at s7 c7
 have l7:e7.length = 31:=by rw [s7.1,l6]
 have c6:getS e7 6 = some (.val (.str (flat (pcs f)))):=by rw [s7.2 6 (by decide)];exact b6
 have hrd:=read_run f (d + 2) [] [] [] (by lia) (fun q h => nomatch h) (by rw [List.nil_append,List.append_nil];lia) (by simp only [List.length_nil];lia)
 rw [List.nil_append,List.append_nil,List.append_nil] at hrd
 have hrd:callN FT (d + 2) 12 [.val (.str (flat (pcs f))),.val (.list (rowV (rws 0 (pcs f))))] = some (told f):=hrd
 have w8:evE (callN FT (d + 2)) 51 e7 (.call 12 [(.var 6),(.var 7)] none) = some (told f,e7):=ev_call2 (ev_var c6) (ev_var c7) hrd
 refine (congrArg out (exB_next (exS_asg w8))).trans ?_
 have s8:Same [8] e7 (setS e7 8 (.val (told f))):=Same.set _ (by simp)
 have d8:getS (setS e7 8 (.val (told f))) 8 = some (.val (told f)):=getS_set (by lia)
 generalize setS e7 8 (.val (told f)) = e8 at s8 d8
 have l8:e8.length = 31:=by rw [s8.1,l7]
 have d6:getS e8 6 = some (.val (.str (flat (pcs f)))):=by rw [s8.2 6 (by decide)];exact c6
 have d4:getS e8 4 = some (.val (told f)):=by rw [s8.2 4 (by decide),s7.2 4 (by decide),s6.2 4 (by decide)];exact a4
 have d7:getS e8 7 = some (.val (.list (rowV (rws 0 (pcs f))))):=by rw [s8.2 7 (by decide)];exact c7
 have hck:=check_run (ps:=pcs f) d (fit_pcs f) (by lia) (by lia)
 have hw:walk 0 (pcs f) = some 0:=by have:=walk_pcs f 0 [];rw [List.append_nil] at this;rw [this];rfl
 rw [hw,decide_eq_true rfl] at hck
 have v1:evT (callN FT (d + 2)) 48 e8 (.cmp .isNot (.call 2 [(.var 6)] none) (.bool true)) = some (false,e8):=evT_cmp (ev_call1 (n:=44) (ev_var d6) hck) (show evE (callN FT (d + 2)) 47 e8 (.bool true) = some (.bool true,e8) from rfl) rfl
 have v2:evT (callN FT (d + 2)) 47 e8 (.cmp .ne (.var 8) (.var 4)) = some (false,e8):=evT_cmp (ev_var d8) (ev_var d4) (ne_tree f (by lia) (by lia))
 have v3:=evT_or2 (n:=46) v1 v2
 rw [exB_next ((exS_if v3).trans (by rfl))]
 have w9:=joints_run (callN FT (d + 2)) (fun s => call8 (d + 1) s) 19 (pcs f) (by lia) e8 l8 d7
 rw [exB_next (exS_asg w9)]
 have s9:Same [9] e8 (setS e8 9 (.val (.list (rowV (jr 0 (pcs f)))))):=Same.set _ (by simp)
 have f9:getS (setS e8 9 (.val (.list (rowV (jr 0 (pcs f)))))) 9 = some (.val (.list (rowV (jr 0 (pcs f))))):=getS_set (by lia)
 generalize setS e8 9 (.val (.list (rowV (jr 0 (pcs f))))) = e9 at s9 f9
 have l9:e9.length = 31:=by rw [s9.1,l8]
 have f6:getS e9 6 = some (.val (.str (flat (pcs f)))):=by rw [s9.2 6 (by decide)];exact d6
 obtain ⟨e10,w10,s10⟩:=pairs_run (f:=f) (by lia) d 18 e9 l9 f6 f9
 rw [exB_next w10]
 have g8:getS e10 8 = some (.val (told f)):=by rw [s10.2 8 (by decide),s9.2 8 (by decide)];exact d8
 have g3':getS e10 3 = some (.val (.list (nums.map .int))):=by rw [s10.2 3 (by decide),s9.2 3 (by decide),s8.2 3 (by decide),s7.2 3 (by decide),s6.2 3 (by decide)];exact a3
 have hsz:sizeT (shp f) = f.ops:=by have h1:=size_lvs (shp f);have h2:=lvs_shp f;lia
 obtain ⟨css,hg,hc⟩:=hcnt (shp f) (by lia)
 obtain ⟨e11,h11⟩:=tail_run d (by lia) f (by lia) css hc hg nums hn e10 (by rw [s10.1,l9]) g3' g8
 rw [h11]
 rfl
theorem cntsP_cons (R:Row) (last lo:Nat) (c:List Int) (r:List (List Int)):cntsP R last lo (c :: r) = (cntP R last lo c && cntsP R last (lo + 1) r):=rfl
theorem counts_all (P:Nat → List Int → Bool) (Q:Nat → List (List Int) → Bool) (hQ:∀ lo c r,Q lo (c :: r) = (P lo c && Q (lo + 1) r)) (css:List (List Int)):∀ lo,Q lo css = true → ∀ k cs,css[k]? = some cs → P (lo + k) cs = true:=by
 induction css with
 | nil => intro lo _ k cs h;simp at h
 | cons c r ih =>
  intro lo hc k cs h
  rw [hQ,Bool.and_eq_true] at hc
  obtain ⟨h1,h2⟩:=hc
  cases k with
  | zero =>
   obtain rfl:c = cs:=by simpa using h
   rw [Nat.add_zero];exact h1
  | succ k =>
   have:=ih (lo + 1) h2 k cs (by simpa using h)
   rw [show lo + 1 + k = lo + (k + 1) by lia] at this
   exact this
theorem counts_ok (s:Tr3) (h:sizeT s = 4 ∨ sizeT s = 5):∃ css,goodAll s css = true ∧ ∀ k cs,css[k]? = some cs → callN FT (9 + 2) 16 [.val (.list (rowV (tri 0 s))),.val (.int ((0 + k:Nat):Int)),.val (.int (s.lvs:Nat))] = some (.list (cs.map .int)):=by
 obtain ⟨css,h1,h2⟩:=shape_ok s h
 exact ⟨css,h2,fun k cs hk => cnt_get (counts_all (cntP (tri 0 s) s.lvs) (cntsP (tri 0 s) s.lvs) (cntsP_cons _ _) css 0 h1 k cs hk)⟩
theorem plain_law (l:List Int) (hl:l.length ≤ 63):callN FT 12 17 [.val (.list (l.map .int))] = some (.bool true):=law_gen 9 (by decide) counts_ok l hl
end
section
theorem said_road:noRoadLSs { strict:=!(importedModules rw0.prog.main.body).all cThrough.contains,foot:=none,bare:=(["vars","dir","locals"]:List PySem.Str).filter (readsOut rw0.prog rw0.prog.main.body) } rw0.prog.main.body = true:=by kernel_rfl
theorem said_looks:looksOpen rw0.row.prog = true:=by
 delta looksOpen
 refine look_both (look_both ?_ said_road) ?_ <;> kernel_rfl
theorem said_row:∃ b:Bool,rw0.row.wellSaid = (looksOpen rw0.row.prog && b) ∧ b = true:=by
 refine ⟨?b,?h1,?h2⟩
 case h1 =>
  delta OpenRow.wellSaid OpenRow.partSaid
  iterate 14 rw [Bool.and_assoc]
 case h2 => kernel_rfl
theorem said_rest:∃ b:Bool,rw0.wellSaid = (rw0.row.wellSaid && b) ∧ b = true:=by
 refine ⟨?b,?h1,?h2⟩
 case h1 =>
  delta OpenLaw.wellSaid
  iterate 17 rw [Bool.and_assoc]
 case h2 => kernel_rfl
theorem said:rw0.wellSaid = true:=by
 obtain ⟨a,h1,h2⟩:=said_row
 obtain ⟨b,h3,h4⟩:=said_rest
 rw [h3,h1,said_looks,h2,h4];rfl
end
end Mine
end
set_option maxHeartbeats 8000000 in
theorem PySem.Challenge.cw_wf0101_01_holds : PySem.Challenge.rw_wf0101_01.Holds := by
  exact holds_law Mine.said fun h => Mine.row_holds h (Mine.call_goal Mine.plain_law)
